/- gojq.funcJoin and impl.Join, of texts. Condition: texts of 2000 bytes at most, 800 of them at most, at least one. -/
import Derived.Test.YtaockngppbeanaaGreatDoorAddJoin
import Derived.Test.YtaockngppbeanaaGreatDoorToTexts
import Derived.Test.YtaockngppbeanaaGreatDoorResult
namespace Go.Proofs.YtaockngppbeanaaGreatDoor
open Go.RowKit

set_option maxRecDepth 100000 in
set_option maxHeartbeats 1000000 in
theorem values_list (a : Option Addr) (n c : Nat) (w : World) : Calls Tryz.prog 104 #[.iface 71 (.slice a n c)] w fun e w' => e = .returned (.tuple #[.slice a n c, .bool true]) ∧ w = w' := by
  go_enter Tryz.func104, Tryz.ntmps104
  go_wp2_with fail
  go_ret2
  exact ⟨rfl, rfl⟩

set_option maxRecDepth 100000 in
set_option maxHeartbeats 4000000 in
theorem funcJoin_texts (sep : T2) (ss : Nat → T2) (len b cap : Nat) (hlen : len ≤ 800) (hpos : 0 < len) (w : World) (hb : b < w.heap.size) (hc : ∀ j, j < len → w.cell? ⟨b, 0 + j, none⟩ = some (tv (ss j))) :
    Calls Tryz.prog 62 #[.iface 71 (.slice (some ⟨b, 0, none⟩) len cap), tv sep] w (RAdd w (js sep ss len)) := by
  obtain ⟨w2, hw2⟩ : ∃ v, v = (w.alloc (.cells #[tv sep] 20)).alloc (.cells #[.slice (some ⟨b, 0, none⟩) len cap] 71) := ⟨_, rfl⟩
  have hb2 : Below w.heap.size w w2 := by rw [hw2]; exact ((Below.refl _ w).alloc (Nat.le_refl _) _).alloc (by simp) _
  have hz2 : w2.heap.size = w.heap.size + 2 := by rw [hw2]; simp
  have m0 : w2.heap[w.heap.size]? = some (.cells #[tv sep] 20) := by rw [hw2]; exact (Below.heap_alloc _ _ _ (by simp)).trans (heap_alloc_new _ _)
  have m1 : w2.heap[w.heap.size + 1]? = some (.cells #[.slice (some ⟨b, 0, none⟩) len cap] 71) := by
    rw [hw2]
    have := heap_alloc_new (w.alloc (.cells #[tv sep] 20)) (.cells #[.slice (some ⟨b, 0, none⟩) len cap] 71)
    simpa using this
  have hcal := add_join (w.heap.size + 1) w.heap.size b 0 len cap sep ss hlen hpos w2 (by omega) (by omega) (by omega) ((cell_of_block m1 0).1) ((cell_of_block m0 0).1) (fun j hj => (hb2.cell (p := ⟨b, 0 + j, none⟩) hb).trans (hc j hj))
  have hfin : Hid (∀ e w', RAdd w2 (js sep ss len) e w' → RAdd w (js sep ss len) e w') := Lib.hid (fun e w' h => ⟨h.1, hb2.trans (h.2.mono hb2.size)⟩)
  have hmf : ∀ (fn : Fn) (first c : Array Value) (w : World), (Instr.makeFunc fn first c).run Tryz.prog w = .ok (.func fn first c) w := fun _ _ _ _ => rfl
  have hne : ((len : Int) == 0) = false := by simp; omega
  obtain ⟨POST, hP⟩ : ∃ R, RAdd w (js sep ss len) = R := ⟨_, rfl⟩
  rw [hP] at hfin ⊢
  have HW := Lib.hid hw2
  clear hP m0 m1 hb2 hz2 hw2 hc
  go_enter Tryz.func62, Tryz.ntmps62
  go_wp2_with fail
  refine (values_list _ _ _ _).mono ?_
  rintro e w3 ⟨rfl, rfl⟩
  go_wp2_with fail
  rw [HW.out] at hcal
  refine hcal.mono ?_
  rintro e w4 ⟨rfl, hb4⟩
  rw [← HW.out] at hb4
  have HR := Lib.hid (hfin.out _ _ ⟨rfl, hb4⟩)
  clear hb4 hcal
  go_wp2_with fail
  exact HR.out

set_option maxRecDepth 100000 in
set_option maxHeartbeats 1000000 in
theorem zzJoin_texts (sep : T2) (ss : Nat → T2) (len b cap : Nat) (hlen : len ≤ 800) (hpos : 0 < len) (w : World) (hb : b < w.heap.size) (hc : ∀ j, j < len → w.cell? ⟨b, 0 + j, none⟩ = some (tv (ss j))) :
    Calls Tryz.prog 30 #[.iface 71 (.slice (some ⟨b, 0, none⟩) len cap), tv sep] w (RAdd w (js sep ss len)) := by
  have h62 := funcJoin_texts sep ss len b cap hlen hpos w hb hc
  clear hc
  go_enter Tryz.func30, Tryz.ntmps30
  go_wp2_with fail
  refine h62.mono ?_
  rintro e w3 ⟨rfl, hb3⟩
  go_wp2_with fail
  go_ret
  exact ⟨rfl, hb3⟩

set_option maxRecDepth 100000 in
set_option maxHeartbeats 4000000 in
theorem fromGo_text (s : ByteArray) (w : World) : Calls Tryz.prog 60 #[.iface 9 (.string s)] w (RC w (textC s) true) := by
  go_enter Tryz.func60, Tryz.ntmps60
  go_wp2_with fail
  refine bodyPost_ret (v := .tuple #[(textC s).val, .bool true]) ?_ rfl ⟨rfl, (Below.refl _ _).alloc (Nat.le_refl _) _⟩
  rw [results_cell_tmp rfl]
  go_simp
  simp [textC]

/-- A Res with a text. -/
def resT (s : ByteArray) : Value := .agg #[.int .i64 4, .int .i64 0, .string s, .slice none 0 0, .slice none 0 0, .slice none 0 0, .int .i64 0]
def RRT (w : World) (s : ByteArray) (e : Ending) (w' : World) : Prop := e = .returned (resT s) ∧ Below w.heap.size w w'

set_option maxRecDepth 100000 in
set_option maxHeartbeats 4000000 in
theorem result_text (s : ByteArray) (w : World) : Calls Tryz.prog 28 #[.iface 9 (.string s)] w (RRT w s) := by
  have hcal := fun wr => fromGo_text s wr
  obtain ⟨POST, hP⟩ : ∃ P, RRT w s = P := ⟨_, rfl⟩
  rw [hP]
  have HP := Lib.hid hP
  clear hP
  have hb1 : Below w.heap.size w (w.alloc (.cells #[.int .i64 0, .int .i64 0, .string ⟨#[]⟩, .slice none 0 0, .slice none 0 0, .slice none 0 0, .int .i64 0] 34)) := (Below.refl _ _).alloc (Nat.le_refl _) _
  have hs1 : (w.alloc (.cells #[.int .i64 0, .int .i64 0, .string ⟨#[]⟩, .slice none 0 0, .slice none 0 0, .slice none 0 0, .int .i64 0] 34)).heap.size = w.heap.size + 1 := by simp
  have hn1 := heap_alloc_new w (.cells #[.int .i64 0, .int .i64 0, .string ⟨#[]⟩, .slice none 0 0, .slice none 0 0, .slice none 0 0, .int .i64 0] 34)
  have HH := Lib.hid (And.intro hs1 (And.intro hn1 hb1))
  clear hs1 hn1
  go_enter Tryz.func28, Tryz.ntmps28
  go_wp2_with fail
  refine (hcal _).mono ?_
  rintro e w3 ⟨rfl, hb⟩
  obtain ⟨hs1, hn1, _⟩ := HH.out
  have hres := (hb.block w.heap.size (by omega)).trans hn1
  have hz3 : w.heap.size < w3.heap.size := by have := hb.size; omega
  have hbw := hb1.trans (hb.mono hb1.size)
  clear hb hs1 hn1 hb1
  have q0 := cell_of_block hres
  have q00 := q0 0
  have q01 := q0 1
  have q02 := q0 2
  have q03 := q0 3
  have q04 := q0 4
  have q05 := q0 5
  have q06 := q0 6
  simp only [List.getElem?_toArray, List.getElem?_cons_succ, List.getElem?_cons_zero] at q00 q01 q02 q03 q04 q05 q06
  clear q0
  unfold textC
  go_wp2_with fail
  have hs6 := set7 (.int .i64 4) (.int .i64 0) (.string s) (.slice none 0 0) (.slice none 0 0) (.slice none 0 0) (.int .i64 0) hres
  have hb6 := ((((((hbw.setCell (p := ⟨w.heap.size, 0, none⟩) (Nat.le_refl _) (.int .i64 4)).setCell (p := ⟨w.heap.size, 1, none⟩) (Nat.le_refl _) (.int .i64 0)).setCell (p := ⟨w.heap.size, 2, none⟩) (Nat.le_refl _) (.string s)).setCell (p := ⟨w.heap.size, 3, none⟩) (Nat.le_refl _) (.slice none 0 0)).setCell (p := ⟨w.heap.size, 4, none⟩) (Nat.le_refl _) (.slice none 0 0)).setCell (p := ⟨w.heap.size, 5, none⟩) (Nat.le_refl _) (.slice none 0 0)).setCell (p := ⟨w.heap.size, 6, none⟩) (Nat.le_refl _) (.int .i64 0)
  generalize (((((((w3.setCell _ _).setCell _ _).setCell _ _).setCell _ _).setCell _ _).setCell _ _).setCell _ _) = w9 at hs6 hb6 ⊢
  have hz9 : w.heap.size < w9.heap.size := (Array.getElem?_eq_some_iff.1 hs6).1
  rw [← HP.out]
  refine bodyPost_ret (v := resT s) ?_ rfl ⟨rfl, hb6.alloc (by omega) _⟩
  exact results_cell_row rfl _ _ w.heap.size 34 _ (0, 0) _ rfl ((Below.heap_alloc _ _ _ hz9).trans hs6) Tryz.underlying34 rfl (by kernel_rfl)
end Go.Proofs.YtaockngppbeanaaGreatDoor
