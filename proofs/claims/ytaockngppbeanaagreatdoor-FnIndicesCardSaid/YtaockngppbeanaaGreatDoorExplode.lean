/- gojq.explode: the runes of a string, as a row of ints in new memory. Condition: a string of 2000 bytes at most. -/
import Derived.Test.YtaockngppbeanaaGreatDoorCompare
import Derived.Test.YtaockngppbeanaaGreatDoorToGo
import Derived.Lib.OthersKept
import Derived.Laws.IdiomStrings
import Derived.Laws.RangeAny
namespace Go.Proofs.YtaockngppbeanaaGreatDoor
open Go.RowKit

/-- The runes of a string from a place on, at most so many. -/
def runes (s : ByteArray) : Nat → Nat → List Nat
  | 0, _ => []
  | f + 1, pos => if pos < s.size then (Utf8.decode s pos).1 :: runes s f (pos + (Utf8.decode s pos).2) else []
def runesOf (s : ByteArray) : List Nat := runes s s.size 0

theorem width_pos (s : ByteArray) (pos : Nat) (h : pos < s.size) : 1 ≤ (Utf8.decode s pos).2 := by
  by_cases ha : (s[pos]'h).toNat < 128
  · rw [decode_ascii s pos h ha]
    exact Nat.le_refl _
  · exact (decode_high s pos h (by omega)).2

theorem runesFrom_size (s : ByteArray) : ∀ (f pos : Nat) (acc : Array Value), (Conv.runesFrom s f pos acc).size = acc.size + (runes s f pos).length
  | 0, pos, acc => by simp [Conv.runesFrom, runes]
  | f + 1, pos, acc => by
    unfold Conv.runesFrom runes
    split
    · have := runesFrom_size s f (pos + (Utf8.decode s pos).2) (acc.push (.int .i32 (Int.ofNat (Utf8.decode s pos).1)))
      simp at this ⊢
      omega
    · simp

theorem runes_le (s : ByteArray) : ∀ (f pos : Nat), ∀ r ∈ runes s f pos, r ≤ 2147483647
  | 0, pos => by simp [runes]
  | f + 1, pos => by
    intro r hr
    unfold runes at hr
    split at hr
    · rcases List.mem_cons.1 hr with rfl | h
      · exact decode_le s pos
      · exact runes_le s f _ r h
    · simp at hr

theorem runes_len (s : ByteArray) : ∀ (f pos : Nat), (runes s f pos).length ≤ f
  | 0, pos => by simp [runes]
  | f + 1, pos => by
    unfold runes
    split
    · have := runes_len s f (pos + (Utf8.decode s pos).2); simp; omega
    · simp

/-- A row in block b that is filled up to k. -/
def FillC (wr : World) (b n k : Nat) (C : Nat → Value) : Prop :=
  ∃ arr : Array Value, wr.heap[b]? = some (.cells arr 20) ∧ arr.size = n ∧ ∀ q, q < k → arr[q]? = some (C q)

theorem FillC.set {wr : World} {b n k : Nat} {C : Nat → Value} (h : FillC wr b n k C) (hk : k < n) : FillC (wr.setCell ⟨b, k, none⟩ (C k)) b n (k + 1) C := by
  obtain ⟨arr, h1, h2, h3⟩ := h
  refine ⟨arr.setIfInBounds k (C k), block_set h1, by simp [h2], fun q hq => ?_⟩
  by_cases e : q = k
  · subst e; simp [h2, hk]
  · rw [Array.getElem?_setIfInBounds_ne (by omega)]; exact h3 q (by omega)
theorem FillC.iter {wr : World} {b n k k2 : Nat} {C : Nat → Value} (h : FillC wr b n k C) (hb : b ≠ k2) (s : ByteArray) (p : Nat) : FillC (wr.iterAt k2 s p) b n k C := by
  obtain ⟨arr, h1, h2, h3⟩ := h
  exact ⟨arr, by rw [Lib.iterAt_other _ _ _ _ _ hb]; exact h1, h2, h3⟩
theorem FillC.row {wr : World} {b n lo hi : Nat} {C : Nat → Value} (h : FillC wr b n n C) (h1 : lo ≤ b) (h2 : b < hi) : Row wr lo hi (some ⟨b, 0, none⟩) n C := by
  obtain ⟨arr, g1, g2, g3⟩ := h
  refine Or.inr ⟨b, 0, rfl, h1, h2, fun i hi => ?_⟩
  rw [(cell_of_block g1 (0 + i)).1, Nat.zero_add]
  exact g3 i hi

def iv (k : Nat) : Value := .iface 3 (.int .i64 k)
def RX (w : World) (s : ByteArray) (e : Ending) (w' : World) : Prop :=
  ∃ b n, n = (runesOf s).length ∧ e = .returned (.slice (some ⟨b, 0, none⟩) n n) ∧ Row w' w.heap.size w'.heap.size (some ⟨b, 0, none⟩) n (fun i => iv ((runesOf s).getD i 0)) ∧ Below w.heap.size w w'

set_option maxRecDepth 100000 in
set_option maxHeartbeats 4000000 in
theorem explode_any (s : ByteArray) (hs : s.size ≤ 2000) (w : World) : Calls Tryz.prog 125 #[.string s] w (RX w s) := by
  have hle : (runesOf s).length ≤ 2000 := Nat.le_trans (runes_len s s.size 0) hs
  have hconv := run_runes_of_string (P := Tryz.prog) w 9 86 21 s (by kernel_rfl) (by kernel_rfl) (by kernel_rfl) (by have := size_runesFrom s s.size 0 #[]; simp at this; omega)
  have hsz : (Conv.runesFrom s s.size 0 #[]).size = (runesOf s).length := by rw [runesFrom_size]; simp [runesOf]
  rw [hsz] at hconv
  generalize hcap : grownCap w (runesOf s).length 0 21 = cap at hconv
  have hb1 : Below w.heap.size w (w.drew.alloc (.cells (Conv.runesFrom s s.size 0 #[] ++ Array.replicate (cap - (runesOf s).length) (.int .i32 0)) 21)) := (Below.refl _ w).drew.alloc (Nat.le_refl _) _
  have hs1 : (w.drew.alloc (.cells (Conv.runesFrom s s.size 0 #[] ++ Array.replicate (cap - (runesOf s).length) (.int .i32 0)) 21)).heap.size = w.heap.size + 1 := by simp
  generalize (w.drew.alloc (.cells (Conv.runesFrom s s.size 0 #[] ++ Array.replicate (cap - (runesOf s).length) (.int .i32 0)) 21)) = w1 at hconv hb1 hs1
  clear hcap hsz
  obtain ⟨rs, hrs⟩ : ∃ l, runesOf s = l := ⟨_, rfl⟩
  have hrs0 : Hid (rs = runes s s.size 0) := Lib.hid hrs.symm
  have hmax : Hid (∀ i, rs.getD i 0 ≤ 2147483647) := Lib.hid (fun i => by
    rw [List.getD_eq_getElem?_getD]
    rcases Nat.lt_or_ge i rs.length with h | h
    · rw [List.getElem?_eq_getElem h]; exact runes_le s s.size 0 _ (by rw [← hrs0.out]; exact List.getElem_mem h)
    · rw [List.getElem?_eq_none h]; simp)
  have hfin : Hid (∀ w', FillC w' w1.heap.size rs.length rs.length (fun i => iv (rs.getD i 0)) → Below w.heap.size w w' → RX w s (.returned (.slice (some ⟨w1.heap.size, 0, none⟩) rs.length rs.length)) w') := Lib.hid (fun w' h1 h2 => by
    refine ⟨_, _, by rw [hrs], rfl, ?_, h2⟩
    rw [hrs]
    exact h1.row (by omega) (by obtain ⟨arr, g, _⟩ := h1; exact (Array.getElem?_eq_some_iff.1 g).1))
  rw [hrs] at hconv hle
  clear hrs
  obtain ⟨POST, hP⟩ : ∃ P, RX w s = P := ⟨_, rfl⟩
  rw [hP] at hfin ⊢
  clear hP
  obtain ⟨n, hn⟩ : ∃ n, n = rs.length := ⟨_, rfl⟩
  rw [← hn] at hconv hle hfin
  have hmk := run_make_row' (P := Tryz.prog) 71 20 .nilIface 16 Tryz.underlying71 info20 rfl .i64 .i64 n (by omega) (by omega)
  have HN := Lib.hid hn
  clear hn
  obtain ⟨C, hC⟩ : ∃ C : Nat → Value, C = (fun i => iv (rs.getD i 0)) := ⟨_, rfl⟩
  rw [← hC] at hfin
  have HC := Lib.hid hC
  clear hC
  have hge : w.heap.size ≤ w1.heap.size := by omega
  clear hs1
  go_enter Tryz.func125, Tryz.ntmps125
  go_wp2_with fail
  go_loopw [4] (fun i wr => ∃ k pos f : Nat, i = .int .i64 k ∧ Below w.heap.size w wr ∧ wr.heap[w1.heap.size + 1]? = some (.stringIter s pos) ∧ FillC wr w1.heap.size n k C ∧ Hid (rs.drop k = runes s f pos) ∧ s.size ≤ pos + f) (fun _ wr => s.size - wr.iterPos (w1.heap.size + 1))
  case atStart =>
    have e := World.iter_heap (w1.alloc (Obj.cells (madeCells #[Value.nilIface] n) 20)) s 0
    have e1 : (w1.alloc (Obj.cells (madeCells #[Value.nilIface] n) 20)).heap.size = w1.heap.size + 1 := by simp
    rw [e1] at e
    refine ⟨0, 0, s.size, rfl, (hb1.alloc (by omega) _).alloc (by omega) _, e, ⟨madeCells #[.nilIface] n, ?_, size_madeCells _ _, fun q hq => by omega⟩, hrs0, by omega⟩
    exact (heap_alloc_old _ _ (by omega)).trans (heap_alloc_new _ _)
  case round =>
    obtain ⟨k, pos, f, rfl, hbw, hit, hfil, hdrop, hfu⟩ := hrel
    by_cases hp : pos < s.size
    · have hnx : ∀ ty, (Instr.next (.pointer (some ⟨w1.heap.size + 1, 0, none⟩)) true ty).run Tryz.prog wr = _ := fun ty => Lib.run_next_any_at wr (w1.heap.size + 1) s pos ty hit hp
      have hwd := width_pos s pos hp
      obtain ⟨f, rfl⟩ : ∃ g, f = g + 1 := ⟨f - 1, by omega⟩
      have hd : rs.drop k = (Utf8.decode s pos).1 :: runes s f (pos + (Utf8.decode s pos).2) := by
        rw [hdrop.out]; simp [runes, hp]
      have hkn : k < n := by
        rw [HN.out]
        have := congrArg List.length hd
        simp at this; omega
      have hd0 : rs.getD k 0 = (Utf8.decode s pos).1 := by
        have := congrArg List.head? hd
        rw [List.head?_drop] at this
        rw [List.getD_eq_getElem?_getD, this]; rfl
      have hd1 : Hid (rs.drop (k + 1) = runes s f (pos + (Utf8.decode s pos).2)) := by
        have := congrArg List.tail hd
        rw [List.tail_drop] at this
        exact Lib.hid this
      have hrl : (Utf8.decode s pos).1 ≤ 2147483647 := decode_le s pos
      have hb2 := Lib.below_iterAt hbw (k := w1.heap.size + 1) (by omega) s (pos + (Utf8.decode s pos).2)
      have hit2 := Lib.iterAt_heap wr (w1.heap.size + 1) s pos (pos + (Utf8.decode s pos).2) hit
      have hf2 := hfil.iter (k2 := w1.heap.size + 1) (by omega) s (pos + (Utf8.decode s pos).2)
      clear hd hdrop hfil
      have hCk : Hid (C k = iv (Utf8.decode s pos).1) := by rw [HC.out]; exact Lib.hid (by rw [← hd0])
      clear hd0
      generalize wr.iterAt (w1.heap.size + 1) s (pos + (Utf8.decode s pos).2) = w2 at hnx hb2 hit2 hf2
      have hm : Hid (s.size - (pos + (Utf8.decode s pos).2) < s.size - pos) := Lib.hid (by omega)
      have hfu2 : s.size ≤ (pos + (Utf8.decode s pos).2) + f := by omega
      generalize (Utf8.decode s pos).1 = r at *
      generalize pos + (Utf8.decode s pos).2 = p2 at *
      have Hf := Lib.hid hf2
      obtain ⟨arr, g1, g2, _⟩ := hf2
      have g4 := cell_of_block g1 k
      have g5 := g4.1.trans (Array.getElem?_eq_getElem (by omega))
      have g6 := g4.2
      clear g1 g4
      have hit3 : (w2.setCell ⟨w1.heap.size, k, none⟩ (iv r)).heap[w1.heap.size + 1]? = some (.stringIter s p2) := (Below.heap_setCell _ _ _ _ (by show w1.heap.size + 1 ≠ w1.heap.size; omega)).trans hit2
      have Hit := Lib.hid hit
      have Hit3 := Lib.hid hit3
      clear hit hit2 hit3
      have hnew : Hid (FillC (w2.setCell ⟨w1.heap.size, k, none⟩ (iv r)) w1.heap.size n (k + 1) C) := by
        have := Hf.out.set hkn
        rw [hCk.out] at this
        exact Lib.hid this
      have hb3 := hb2.setCell (p := ⟨w1.heap.size, k, none⟩) (by show w.heap.size ≤ w1.heap.size; omega) (iv r)
      go_wp2_with fail
      go_roundw
      case rel => exact ⟨k + 1, p2, f, by go_num, hb3, Hit3.out, hnew.out, hd1, hfu2⟩
      case measure => 
        have e3 := Hit3.out
        simp only [iv] at e3
        simp only [World.iterPos, Hit.out, e3]
        exact hm.out
    · have hnx : ∀ ty, (Instr.next (.pointer (some ⟨w1.heap.size + 1, 0, none⟩)) true ty).run Tryz.prog wr = _ := fun ty => Lib.run_next_end_at wr (w1.heap.size + 1) s pos ty hit hp
      have hkn : n ≤ k := by
        have h0 : runes s f pos = [] := by cases f <;> simp [runes, hp]
        have := hdrop.out
        rw [h0] at this
        rw [HN.out]
        simpa using this
      have hfil2 : FillC wr w1.heap.size n n C := by
        obtain ⟨arr, g1, g2, g3⟩ := hfil
        exact ⟨arr, g1, g2, fun q hq => g3 q (by omega)⟩
      go_wp2_with fail
      exact hfin.out wr hfil2 hbw
end Go.Proofs.YtaockngppbeanaaGreatDoor
