/- impl.listToGo: a list as gojq takes it, in new memory. -/
import Derived.Test.YtaockngppbeanaaGreatDoorRep
import Derived.Test.YtaockngppbeanaaGreatDoorFits
import Derived.Deep.OwnRows
namespace Go.Proofs.YtaockngppbeanaaGreatDoor
open Go.RowKit

theorem info20 : (Tryz.prog.info? 20).map (fun i => (i.zero, i.size, i.bytes)) = some (some .nilIface, 1, 16) := by kernel_rfl

/-- A store of an interface value. -/
theorem run_store20 {w : World} {b k : Nat} {v old : Value} (hv : v = .nilIface ∨ ∃ t x, v = .iface t x) (hc : w.cell? ⟨b, k, none⟩ = some old) (hf : w.frozen? ⟨b, k, none⟩ = false) :
    (storeCells ⟨b, k, none⟩ [v]).run Tryz.prog w = .ok () (w.setCell ⟨b, k, none⟩ v) := by
  rcases hv with rfl | ⟨t, x, rfl⟩ <;> simp [go_sem, storeCells, hc, hf]

theorem cell_of_block {w : World} {b : Nat} {arr : Array Value} {t : TypeId} (h : w.heap[b]? = some (.cells arr t)) (k : Nat) : w.cell? ⟨b, k, none⟩ = arr[k]? ∧ w.frozen? ⟨b, k, none⟩ = false := by
  constructor <;> simp [World.cell?, World.frozen?, h]
theorem block_set {w : World} {b k : Nat} {arr : Array Value} {t : TypeId} {v : Value} (h : w.heap[b]? = some (.cells arr t)) : (w.setCell ⟨b, k, none⟩ v).heap[b]? = some (.cells (arr.setIfInBounds k v) t) := by
  simp [World.setCell, Array.getElem?_modify, h]

/-- A row of interface values in block b that is filled up to k. -/
def Filled (wr : World) (b n k : Nat) (ls : List JV) : Prop :=
  ∃ arr : Array Value, wr.heap[b]? = some (.cells arr 20) ∧ arr.size = n ∧ ∀ q, q < k → ∃ v, arr[q]? = some v ∧ GRep wr (b + 1) wr.heap.size v (ls.getD q dfl)

theorem Filled.step {wr w7 : World} {b n k : Nat} {ls : List JV} {v : Value} (h : Filled wr b n k ls) (hb : Below wr.heap.size wr w7) (hlt : b < wr.heap.size) (hk : k < n)
    (hv : GRep w7 wr.heap.size w7.heap.size v (ls.getD k dfl)) : Filled (w7.setCell ⟨b, k, none⟩ v) b n (k + 1) ls := by
  obtain ⟨arr, h1, h2, h3⟩ := h
  have hs : (w7.setCell ⟨b, k, none⟩ v).heap.size = w7.heap.size := by simp [World.setCell]
  refine ⟨arr.setIfInBounds k v, block_set ((hb.block b hlt).trans h1), by simp [h2], fun q hq => ?_⟩
  rw [hs]
  by_cases e : q = k
  · subst e
    exact ⟨v, by simp [h2, hk], hv.keep (SameOn.setCell _ _ _ (Or.inl hlt)) (by omega) (Nat.le_refl _)⟩
  · obtain ⟨u, hu, hg⟩ := h3 q (by omega)
    exact ⟨u, by rw [Array.getElem?_setIfInBounds_ne (by omega)]; exact hu, hg.keep ((SameOn.of_below hb (Nat.le_refl _)).trans (SameOn.setCell _ _ _ (Or.inl (by show b < _; omega)))) (Nat.le_refl _) hb.size⟩

def RL (w : World) (ls : List JV) (e : Ending) (w' : World) : Prop :=
  ∃ n, n = ls.length ∧ e = .returned (.tuple #[.slice (some ⟨w.heap.size, 0, none⟩) n n, .bool true]) ∧ Filled w' w.heap.size n n ls ∧ Below w.heap.size w w'

set_option maxRecDepth 100000 in
set_option maxHeartbeats 2000000 in
theorem listToGo_walk (ls : List JV) (a : Option Addr) (c : Nat) (L : Nat → VC) (B : Nat) (w : World) (hB : B ≤ w.heap.size) (hl : ls.length ≤ 400) (r1 : Row6 w B a ls.length L)
    (hcall : ∀ (k : Nat) (wr : World), k < ls.length → Below w.heap.size w wr → Calls Tryz.prog 27 #[(L k).val] wr (RG wr (ls.getD k dfl))) :
    Calls Tryz.prog 58 #[.slice a ls.length c] w (RL w ls) := by
  have hfin : Hid (∀ w', Filled w' w.heap.size ls.length ls.length ls → Below w.heap.size w w' → RL w ls (.returned (.tuple #[.slice (some ⟨w.heap.size, 0, none⟩) ls.length ls.length, .bool true])) w') := fun w' h1 h2 => ⟨_, rfl, rfl, h1, h2⟩
  obtain ⟨POST, hP⟩ : ∃ P, RL w ls = P := ⟨_, rfl⟩
  rw [hP] at hfin ⊢
  clear hP
  generalize hn : ls.length = n at *
  clear hn
  have hmk := run_make_row' (P := Tryz.prog) 71 20 .nilIface 16 Tryz.underlying71 info20 rfl .i64 .i64 n (by omega) (by omega)
  go_enter Tryz.func58, Tryz.ntmps58
  go_wp2_with fail
  go_loopw [14] (fun i wr => ∃ k : Nat, k ≤ n ∧ i = .int .i64 k ∧ Below w.heap.size w wr ∧ w.heap.size < wr.heap.size ∧ Filled wr w.heap.size n k ls) (fun i _ => n - (intOf i).toNat)
  case atStart => exact ⟨0, Nat.zero_le _, rfl, (Below.refl _ _).alloc (Nat.le_refl _) _, by simp, madeCells #[.nilIface] n, heap_alloc_new _ _, size_madeCells _ _, fun q hq => by omega⟩
  case round =>
    obtain ⟨k, hk, rfl, hbw, hsz, hfil⟩ := hrel
    by_cases hlt : k < n
    · rcases r1 with r1 | ⟨b, off, ha, hlb, r1⟩
      · omega
      obtain ⟨c0, c1, c2, c3, c4, c5⟩ := ((r1 k hlt).keep (w' := wr) hbw (by omega))
      have hc := hcall k
      have Hf := Lib.hid hfil
      obtain ⟨arr, g1, g2, _⟩ := hfil
      go_wp2_with fail
      refine (hc _ hlt (hbw.alloc (by omega) _)).mono ?_
      rintro e w7 ⟨v, rfl, hv, hb7⟩
      have hb7' := ((Below.refl wr.heap.size wr).alloc (Nat.le_refl _) _).trans (hb7.mono (by simp))
      have g3 := (hb7'.block _ hsz).trans g1
      have g4 := cell_of_block g3 k
      have g5 := g4.1.trans (Array.getElem?_eq_getElem (by omega))
      have g6 := g4.2
      have Hv := Lib.hid hv
      have hs8 : ∀ u, w.heap.size < (w7.setCell ⟨w.heap.size, k, none⟩ u).heap.size := fun u => by
        show w.heap.size < (w7.heap.modify _ _).size
        rw [Array.size_modify]; have := hb7'.size; omega
      clear g1 g3 g4
      rcases hv.iface with rfl | ⟨t, x, rfl⟩
      all_goals clear hv
      · go_wp2_with fail
        have hnew : Hid (Filled (w7.setCell ⟨w.heap.size, k, none⟩ Value.nilIface) w.heap.size n (k + 1) ls) := Hf.out.step hb7' hsz hlt (Hv.out.keep (SameOn.refl _ _ _) (by simp) (Nat.le_refl _))
        go_roundw
        case rel =>
          have hrel : ∃ k' : Nat, k' ≤ n ∧ Value.int .i64 ((k : Int) + 1) = .int .i64 k' ∧ Below w.heap.size w (w7.setCell ⟨w.heap.size, k, none⟩ Value.nilIface) ∧ w.heap.size < (w7.setCell ⟨w.heap.size, k, none⟩ Value.nilIface).heap.size ∧ Filled (w7.setCell ⟨w.heap.size, k, none⟩ Value.nilIface) w.heap.size n k' ls :=
            ⟨k + 1, by omega, by go_num, (hbw.trans (hb7'.mono hbw.size)).setCell (Nat.le_refl _) _, hs8 _, hnew.out⟩
          first | exact hrel | ((repeat apply Exists.intro); exact ⟨hrel, by first | rfl | (rw [ha]; try rfl)⟩)
        case measure => simp [intOf]; omega
      · go_wp2_with fail
        have hnew : Hid (Filled (w7.setCell ⟨w.heap.size, k, none⟩ (Value.iface t x)) w.heap.size n (k + 1) ls) := Hf.out.step hb7' hsz hlt (Hv.out.keep (SameOn.refl _ _ _) (by simp) (Nat.le_refl _))
        go_roundw
        case rel =>
          have hrel : ∃ k' : Nat, k' ≤ n ∧ Value.int .i64 ((k : Int) + 1) = .int .i64 k' ∧ Below w.heap.size w (w7.setCell ⟨w.heap.size, k, none⟩ (Value.iface t x)) ∧ w.heap.size < (w7.setCell ⟨w.heap.size, k, none⟩ (Value.iface t x)).heap.size ∧ Filled (w7.setCell ⟨w.heap.size, k, none⟩ (Value.iface t x)) w.heap.size n k' ls :=
            ⟨k + 1, by omega, by go_num, (hbw.trans (hb7'.mono hbw.size)).setCell (Nat.le_refl _) _, hs8 _, hnew.out⟩
          first | exact hrel | ((repeat apply Exists.intro); exact ⟨hrel, by first | rfl | (rw [ha]; try rfl)⟩)
        case measure => simp [intOf]; omega
    · go_wp2_with fail
      obtain rfl : k = n := by omega
      exact hfin.out _ hfil hbw
end Go.Proofs.YtaockngppbeanaaGreatDoor
