/- impl.result, of a row of numbers and of an error. -/
import Derived.Test.YtaockngppbeanaaGreatDoorFromGo
namespace Go.Proofs.YtaockngppbeanaaGreatDoor
open Go.RowKit

set_option maxRecDepth 100000 in
set_option maxHeartbeats 4000000 in
theorem fromGo_list (L : List Nat) (hL : ∀ k ∈ L, k ≤ 2000) (hlen : L.length ≤ 2000) (a : Option Addr) (n c : Nat) (lo hi : Nat) (w : World) (hn : n = L.length) (hB : hi ≤ w.heap.size) (hr : Row w lo hi a n (fun i => iv (L.getD i 0))) :
    Calls Tryz.prog 60 #[.iface 71 (.slice a n c)] w (RLF w L) := by
  have hcal := fun wr (hb : Below w.heap.size w wr) => listFromGo_walk L hL hlen a n c lo hi wr hn (by have := hb.size; omega) (hr.keep (.of_below hb hB) (Nat.le_refl _) (Nat.le_refl _))
  clear hr hn
  obtain ⟨POST, hP⟩ : ∃ P, RLF w L = P := ⟨_, rfl⟩
  rw [hP]
  have HP := Lib.hid hP
  clear hP
  have hb1 : Below w.heap.size w (w.alloc (.cells #[.int .i64 0, .int .i64 0, .string ⟨#[]⟩, .slice none 0 0, .slice none 0 0, .slice none 0 0] 26)) := (Below.refl _ _).alloc (Nat.le_refl _) _
  have hs1 : (w.alloc (.cells #[.int .i64 0, .int .i64 0, .string ⟨#[]⟩, .slice none 0 0, .slice none 0 0, .slice none 0 0] 26)).heap.size = w.heap.size + 1 := by simp
  have hn1 := heap_alloc_new w (.cells #[.int .i64 0, .int .i64 0, .string ⟨#[]⟩, .slice none 0 0, .slice none 0 0, .slice none 0 0] 26)
  have HH := Lib.hid (And.intro hs1 (And.intro hn1 hb1))
  clear hs1 hn1
  go_enter Tryz.func60, Tryz.ntmps60
  go_wp2_with fail
  refine (hcal _ hb1).mono ?_
  rintro e w3 ⟨a', n', c', hn', rfl, ho, hb⟩
  obtain ⟨hs1, hn1, _⟩ := HH.out
  have hres := (hb.block w.heap.size (by omega)).trans hn1
  rw [hs1] at ho
  have hbw := hb1.trans (hb.mono hb1.size)
  have HN := Lib.hid hn'
  have HO := Lib.hid ho
  clear hn' ho hb hs1 hn1 hb1
  have q0 := cell_of_block hres
  have q00 := q0 0
  have q01 := q0 1
  have q02 := q0 2
  have q03 := q0 3
  have q04 := q0 4
  have q05 := q0 5
  simp only [List.getElem?_toArray, List.getElem?_cons_succ, List.getElem?_cons_zero] at q00 q01 q02 q03 q04 q05
  clear q0
  go_wp2_with fail
  have hs6 := set6 (.int .i64 5) (.int .i64 0) (.string ByteArray.empty) (.slice a' n' c') (.slice none 0 0) (.slice none 0 0) hres
  have ho6 := ownsRow_set (ownsRow_set (ownsRow_set (ownsRow_set (ownsRow_set (ownsRow_set HO.out ⟨w.heap.size, 0, none⟩ (.int .i64 5) (by show w.heap.size < _; omega)) ⟨w.heap.size, 1, none⟩ (.int .i64 0) (by show w.heap.size < _; omega)) ⟨w.heap.size, 2, none⟩ (.string ByteArray.empty) (by show w.heap.size < _; omega)) ⟨w.heap.size, 3, none⟩ (.slice a' n' c') (by show w.heap.size < _; omega)) ⟨w.heap.size, 4, none⟩ (.slice none 0 0) (by show w.heap.size < _; omega)) ⟨w.heap.size, 5, none⟩ (.slice none 0 0) (by show w.heap.size < _; omega)
  have hb6 := (((((hbw.setCell (p := ⟨w.heap.size, 0, none⟩) (Nat.le_refl _) (.int .i64 5)).setCell (p := ⟨w.heap.size, 1, none⟩) (Nat.le_refl _) (.int .i64 0)).setCell (p := ⟨w.heap.size, 2, none⟩) (Nat.le_refl _) (.string ByteArray.empty)).setCell (p := ⟨w.heap.size, 3, none⟩) (Nat.le_refl _) (.slice a' n' c')).setCell (p := ⟨w.heap.size, 4, none⟩) (Nat.le_refl _) (.slice none 0 0)).setCell (p := ⟨w.heap.size, 5, none⟩) (Nat.le_refl _) (.slice none 0 0)
  generalize ((((((w3.setCell _ _).setCell _ _).setCell _ _).setCell _ _).setCell _ _).setCell _ _) = w9 at hs6 ho6 hb6 ⊢
  obtain ⟨d0, d1, d2, d3, d4, d5⟩ := cells6 hs6
  rw [← HP.out]
  refine bodyPost_ret (v := .tuple #[.agg #[.int .i64 5, .int .i64 0, .string ByteArray.empty, .slice a' n' c', .slice none 0 0, .slice none 0 0], .bool true]) ?_ rfl ⟨a', n', c', HN.out, rfl, ownsRow_base ho6 (by omega), hb6⟩
  rw [results_cell_tmp rfl]
  go_simp
  first | rfl | skip

theorem set7 {w : World} {b : Nat} {t : TypeId} {v0 v1 v2 v3 v4 v5 v6 : Value} (u0 u1 u2 u3 u4 u5 u6 : Value) (h : w.heap[b]? = some (.cells #[v0, v1, v2, v3, v4, v5, v6] t)) :
    (((((((w.setCell ⟨b, 0, none⟩ u0).setCell ⟨b, 1, none⟩ u1).setCell ⟨b, 2, none⟩ u2).setCell ⟨b, 3, none⟩ u3).setCell ⟨b, 4, none⟩ u4).setCell ⟨b, 5, none⟩ u5).setCell ⟨b, 6, none⟩ u6).heap[b]? = some (.cells #[u0, u1, u2, u3, u4, u5, u6] t) := by
  exact (block_set (block_set (block_set (block_set (block_set (block_set (block_set h))))))).trans (by simp)

/-- A Res with a list of numbers; an error. -/
def RRes (w : World) (L : List Nat) (e : Ending) (w' : World) : Prop :=
  ∃ a n c, n = L.length ∧ e = .returned (.agg #[.int .i64 5, .int .i64 0, .string ByteArray.empty, .slice a n c, .slice none 0 0, .slice none 0 0, .int .i64 0]) ∧ w'.ownsRow w.heap.size 26 6 (.slice a n c) n (numsC L) ∧ Below w.heap.size w w'
def RResErr (w : World) (e : Ending) (w' : World) : Prop :=
  e = .returned (.agg #[.int .i64 0, .int .i64 0, .string ⟨#[]⟩, .slice none 0 0, .slice none 0 0, .slice none 0 0, .int .i64 1]) ∧ Below w.heap.size w w'

set_option maxRecDepth 100000 in
set_option maxHeartbeats 4000000 in
theorem result_err (p : Option Addr) (w : World) : Calls Tryz.prog 28 #[.iface 120 (.pointer p)] w (RResErr w) := by
  go_enter Tryz.func28, Tryz.ntmps28
  go_wp2_with fail
  refine bodyPost_ret (v := .agg #[.int .i64 0, .int .i64 0, .string ⟨#[]⟩, .slice none 0 0, .slice none 0 0, .slice none 0 0, .int .i64 1]) ?_ rfl ⟨rfl, (Below.refl _ _).alloc (Nat.le_refl _) _⟩
  exact results_cell_row rfl _ _ w.heap.size 34 _ (0, 0) _ rfl (heap_alloc_new _ _) Tryz.underlying34 rfl (by kernel_rfl)

set_option maxRecDepth 100000 in
set_option maxHeartbeats 4000000 in
theorem result_list (L : List Nat) (hL : ∀ k ∈ L, k ≤ 2000) (hlen : L.length ≤ 2000) (a : Option Addr) (n c : Nat) (lo hi : Nat) (w : World) (hn : n = L.length) (hB : hi ≤ w.heap.size) (hr : Row w lo hi a n (fun i => iv (L.getD i 0))) :
    Calls Tryz.prog 28 #[.iface 71 (.slice a n c)] w (RRes w L) := by
  have hcal := fun wr (hb : Below w.heap.size w wr) => fromGo_list L hL hlen a n c lo hi wr hn (by have := hb.size; omega) (hr.keep (.of_below hb hB) (Nat.le_refl _) (Nat.le_refl _))
  clear hr hn
  obtain ⟨POST, hP⟩ : ∃ P, RRes w L = P := ⟨_, rfl⟩
  rw [hP]
  have HP := Lib.hid hP
  clear hP
  have hb1 : Below w.heap.size w (w.alloc (.cells #[.int .i64 0, .int .i64 0, .string ⟨#[]⟩, .slice none 0 0, .slice none 0 0, .slice none 0 0, .int .i64 0] 34)) := (Below.refl _ _).alloc (Nat.le_refl _) _
  have hs1 : (w.alloc (.cells #[.int .i64 0, .int .i64 0, .string ⟨#[]⟩, .slice none 0 0, .slice none 0 0, .slice none 0 0, .int .i64 0] 34)).heap.size = w.heap.size + 1 := by simp
  have hn1 := heap_alloc_new w (.cells #[.int .i64 0, .int .i64 0, .string ⟨#[]⟩, .slice none 0 0, .slice none 0 0, .slice none 0 0, .int .i64 0] 34)
  have HH := Lib.hid (And.intro hs1 (And.intro hn1 hb1))
  clear hs1 hn1
  go_enter Tryz.func28, Tryz.ntmps28
  go_wp2_with fail
  refine (hcal _ hb1).mono ?_
  rintro e w3 ⟨a', n', c', hn', rfl, ho, hb⟩
  obtain ⟨hs1, hn1, _⟩ := HH.out
  have hres := (hb.block w.heap.size (by omega)).trans hn1
  have hz3 : w.heap.size < w3.heap.size := by have := hb.size; omega
  rw [hs1] at ho
  have hbw := hb1.trans (hb.mono hb1.size)
  have HN := Lib.hid hn'
  have HO := Lib.hid ho
  clear hn' ho hb hs1 hn1 hb1
  have q0 := cell_of_block hres
  have q00 := q0 0
  have q01 := q0 1
  have q02 := q0 2
  have q03 := q0 3
  have q04 := q0 4
  have q05 := q0 5
  have q06 := q0 6
  simp only [List.getElem?_toArray, List.getElem?_cons_succ, List.getElem?_cons_zero] at q00 q01 q02 q03 q04 q05 q06
  clear q0
  go_wp2_with fail
  have hs6 := set7 (.int .i64 5) (.int .i64 0) (.string ByteArray.empty) (.slice a' n' c') (.slice none 0 0) (.slice none 0 0) (.int .i64 0) hres
  have ho6 := ownsRow_set (ownsRow_set (ownsRow_set (ownsRow_set (ownsRow_set (ownsRow_set (ownsRow_set HO.out ⟨w.heap.size, 0, none⟩ (.int .i64 5) (by show w.heap.size < _; omega)) ⟨w.heap.size, 1, none⟩ (.int .i64 0) (by show w.heap.size < _; omega)) ⟨w.heap.size, 2, none⟩ (.string ByteArray.empty) (by show w.heap.size < _; omega)) ⟨w.heap.size, 3, none⟩ (.slice a' n' c') (by show w.heap.size < _; omega)) ⟨w.heap.size, 4, none⟩ (.slice none 0 0) (by show w.heap.size < _; omega)) ⟨w.heap.size, 5, none⟩ (.slice none 0 0) (by show w.heap.size < _; omega)) ⟨w.heap.size, 6, none⟩ (.int .i64 0) (by show w.heap.size < _; omega)
  have hb6 := ((((((hbw.setCell (p := ⟨w.heap.size, 0, none⟩) (Nat.le_refl _) (.int .i64 5)).setCell (p := ⟨w.heap.size, 1, none⟩) (Nat.le_refl _) (.int .i64 0)).setCell (p := ⟨w.heap.size, 2, none⟩) (Nat.le_refl _) (.string ByteArray.empty)).setCell (p := ⟨w.heap.size, 3, none⟩) (Nat.le_refl _) (.slice a' n' c')).setCell (p := ⟨w.heap.size, 4, none⟩) (Nat.le_refl _) (.slice none 0 0)).setCell (p := ⟨w.heap.size, 5, none⟩) (Nat.le_refl _) (.slice none 0 0)).setCell (p := ⟨w.heap.size, 6, none⟩) (Nat.le_refl _) (.int .i64 0)
  generalize (((((((w3.setCell _ _).setCell _ _).setCell _ _).setCell _ _).setCell _ _).setCell _ _).setCell _ _) = w9 at hs6 ho6 hb6 ⊢
  have hz9 : w.heap.size < w9.heap.size := (Array.getElem?_eq_some_iff.1 hs6).1
  rw [← HP.out]
  refine bodyPost_ret (v := .agg #[.int .i64 5, .int .i64 0, .string ByteArray.empty, .slice a' n' c', .slice none 0 0, .slice none 0 0, .int .i64 0]) ?_ rfl ⟨a', n', c', HN.out, rfl, ownsRow_base (ho6.alloc _) (by omega), hb6.alloc (by omega) _⟩
  exact results_cell_row rfl _ _ w.heap.size 34 _ (0, 0) _ rfl ((heap_alloc_old _ _ hz9).trans hs6) Tryz.underlying34 rfl (by kernel_rfl)
end Go.Proofs.YtaockngppbeanaaGreatDoor
