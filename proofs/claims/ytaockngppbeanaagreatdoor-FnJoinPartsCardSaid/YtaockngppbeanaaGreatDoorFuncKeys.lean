/- gojq.funcKeys of a map: its keys, sorted, as a list of texts in new memory. -/
import Derived.Test.YtaockngppbeanaaGreatDoorKeys
import Derived.Test.YtaockngppbeanaaGreatDoorGLists
namespace Go.Proofs.YtaockngppbeanaaGreatDoor
open Go.RowKit

def RFK (w : World) (ks : List ByteArray) (e : Ending) (w' : World) : Prop :=
  ∃ n, n = ks.length ∧ e = .returned (.iface 71 (.slice (some ⟨w.heap.size, 0, none⟩) n n)) ∧ Row w' w.heap.size w'.heap.size (some ⟨w.heap.size, 0, none⟩) n (fun i => .iface 9 (.string (ks.getD i ByteArray.empty))) ∧ w.heap.size < w'.heap.size ∧ Below w.heap.size w w'

set_option maxRecDepth 100000 in
set_option maxHeartbeats 4000000 in
theorem funcKeys_gen (ks : List ByteArray) (V : Nat → Value) (r : Nat) (w : World) (hm : w.heap[r]? = some (.map (ents ks V ks.length) ks.length)) (hl : ks.length ≤ 400)
    (ord : ∀ i, i + 1 < ks.length → lessB (ks.getD i ByteArray.empty) (ks.getD (i + 1) ByteArray.empty)) :
    Calls Tryz.prog 150 #[.iface 74 (.map (some r))] w (RFK w ks) := by
  have hr : r < w.heap.size := (Array.getElem?_eq_some_iff.1 hm).1
  have hkeys : ∀ o, Calls Tryz.prog 127 #[.map (some r)] (w.alloc o) (RK (w.alloc o) ks) := fun o => keys_gen ks V r (w.alloc o) (by rw [Go.heap_alloc_old _ _ hr]; exact hm) hl ord
  obtain ⟨S, hS⟩ : ∃ S : Nat → ByteArray, ∀ i, S i = ks.getD i ByteArray.empty := ⟨_, fun _ => rfl⟩
  have HP : Hid (∀ (w' : World) (arr : Array Value), w'.heap[w.heap.size]? = some (.cells arr 20) → (∀ q, q < ks.length → arr[q]? = some (.iface 9 (.string (S q)))) → Below w.heap.size w w' → RFK w ks (.returned (.iface 71 (.slice (some ⟨w.heap.size, 0, none⟩) ks.length ks.length))) w') := fun w' arr h1 h2 h3 =>
    ⟨_, rfl, rfl, Or.inr ⟨_, 0, rfl, Nat.le_refl _, (Array.getElem?_eq_some_iff.1 h1).1, fun i hi => by rw [(cell_of_block h1 _).1, Nat.zero_add, h2 i hi, hS]⟩, (Array.getElem?_eq_some_iff.1 h1).1, h3⟩
  obtain ⟨POST, hP⟩ : ∃ P, RFK w ks = P := ⟨_, rfl⟩
  rw [hP] at HP ⊢
  clear hP ord
  have hlen := run_len_map hm
  rw [ents_size] at hlen
  have hmk := run_make_row' (P := Tryz.prog) 71 20 .nilIface 16 Tryz.underlying71 info20 rfl .i64 .i64 ks.length (by omega) (by omega)
  have HS := Lib.hid hS; clear hS
  obtain ⟨n, hn⟩ : ∃ n, ks.length = n := ⟨_, rfl⟩
  have HN := Lib.hid hn
  rw [hn] at hlen hmk HP hl
  clear hn hm
  go_enter Tryz.func150, Tryz.ntmps150
  go_wp2_with fail
  refine (hkeys _).mono ?_
  rintro e w2 ⟨n2, hn2, rfl, hc2, hs2, hb2⟩
  obtain rfl : n2 = n := hn2.trans HN.out
  clear hn2 hlen
  simp only [World.size_alloc] at hc2 hs2
  have hb2' : Below w.heap.size w w2 := ((Below.refl _ _).alloc (Nat.le_refl _) _).trans (hb2.mono (by simp))
  have ha2 : w2.heap[w.heap.size]? = some (.cells (madeCells #[.nilIface] n2) 20) := (hb2.block _ (by simp)).trans (heap_alloc_new _ _)
  have hc2' : ∀ i, i < n2 → w2.cell? ⟨w.heap.size + 1, i, none⟩ = some (.string (S i)) := fun i hi => by rw [HS.out]; exact hc2 i hi
  clear hc2 hb2 hkeys
  go_wp2_with fail
  go_loopw [44] (fun i wr => ∃ (k : Nat) (arr : Array Value), k ≤ n2 ∧ i = .int .i64 k ∧ Below w.heap.size w wr ∧ SameOn (w.heap.size + 1) w2.heap.size w2 wr ∧ wr.heap[w.heap.size]? = some (.cells arr 20) ∧ arr.size = n2 ∧ ∀ q, q < k → arr[q]? = some (.iface 9 (.string (S q)))) (fun i _ => n2 - (intOf i).toNat)
  case atStart => exact ⟨0, _, Nat.zero_le _, rfl, hb2', SameOn.refl _ _ _, ha2, size_madeCells _ _, fun q hq => by omega⟩
  case round =>
    obtain ⟨k, arr, hk, rfl, hbw, hsame, harr, hasz, hfil⟩ := hrel
    have HF := Lib.hid hfil; clear hfil
    by_cases hlt : k < n2
    · have c0 : wr.cell? ⟨w.heap.size + 1, k, none⟩ = some (.string (S k)) := (World.cell?_of_block (w := w2) (hsame (w.heap.size + 1) (Nat.le_refl _) hs2)).trans (hc2' k hlt)
      obtain ⟨g5, g6⟩ := cell_of_block harr k
      obtain ⟨old, g7⟩ : ∃ old, wr.cell? ⟨w.heap.size, k, none⟩ = some old := ⟨_, g5.trans (Array.getElem?_eq_getElem (by omega))⟩
      have HA := Lib.hid (And.intro harr hasz)
      clear g5 harr hasz
      go_wp2_with fail
      have hrel : ∃ (k' : Nat) (arr : Array Value), k' ≤ n2 ∧ Value.int .i64 ((k : Int) + 1) = .int .i64 k' ∧ Below w.heap.size w (wr.setCell ⟨w.heap.size, k, none⟩ (.iface 9 (.string (S k)))) ∧ SameOn (w.heap.size + 1) w2.heap.size w2 (wr.setCell ⟨w.heap.size, k, none⟩ (.iface 9 (.string (S k)))) ∧ (wr.setCell ⟨w.heap.size, k, none⟩ (.iface 9 (.string (S k)))).heap[w.heap.size]? = some (.cells arr 20) ∧ arr.size = n2 ∧ ∀ q, q < k' → arr[q]? = some (.iface 9 (.string (S q))) :=
        ⟨k + 1, arr.setIfInBounds k (.iface 9 (.string (S k))), by omega, by go_num, hbw.setCell (Nat.le_refl _) _, hsame.trans (SameOn.setCell _ _ _ (Or.inl (by show w.heap.size < _; omega))), block_set HA.out.1, by simp [HA.out.2], fun q hq => by
          by_cases e : q = k
          · subst e; simp [HA.out.2, hlt]
          · rw [Array.getElem?_setIfInBounds_ne (by omega)]; exact HF.out q (by omega)⟩
      go_roundw
      case rel => exact hrel
      case measure => simp [intOf]; omega
    · go_wp2_with fail
      obtain rfl : k = n2 := by omega
      exact HP.out _ arr harr HF.out hbw
end Go.Proofs.YtaockngppbeanaaGreatDoor
