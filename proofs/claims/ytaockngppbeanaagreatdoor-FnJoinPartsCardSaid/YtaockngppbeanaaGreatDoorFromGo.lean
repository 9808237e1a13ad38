/- impl.listFromGo, of a row of numbers. -/
import Derived.Test.YtaockngppbeanaaGreatDoorIndexFunc
import Derived.Laws.ResultCell
namespace Go.Proofs.YtaockngppbeanaaGreatDoor
open Go.RowKit

/-- The six cells of the number k. -/
def numC (k : Nat) : VC := { kind := 3, half := 2 * k, text := ByteArray.empty, la := none, ln := 0, lc := 0, ka := none, kn := 0, kc := 0, va := none, vn := 0, vc := 0 }
def RC (w : World) (x : VC) (b : Bool) (e : Ending) (w' : World) : Prop := e = .returned (.tuple #[x.val, .bool b]) ∧ Below w.heap.size w w'
set_option maxRecDepth 100000 in
set_option maxHeartbeats 4000000 in
theorem fromGo_int (k : Nat) (hk : k ≤ 2000) (w : World) : Calls Tryz.prog 60 #[iv k] w (RC w (numC k) true) := by
  unfold iv
  have h1 : decide ((k : Int) ≤ 4611686018427387903) = true := by simp; omega
  go_enter Tryz.func60, Tryz.ntmps60
  go_wp2_with fail
  refine bodyPost_ret (v := .tuple #[(numC k).val, .bool true]) ?_ rfl ⟨rfl, (Below.refl _ _).alloc (Nat.le_refl _) _⟩
  rw [results_cell_tmp rfl]
  go_simp
  simp [numC]
  rfl

/-- Rows of numbers in six cells each. -/
def numsC (L : List Nat) : List Value := L.flatMap fun k : Nat => [.int .i64 3, .int .i64 (2 * (k : Int)), .string ⟨#[]⟩, .slice none 0 0, .slice none 0 0, .slice none 0 0]

theorem info26 : (Tryz.prog.info? 26).map (fun i => (i.zero, i.size, i.bytes)) = some (some (.agg #[.int .i64 0, .int .i64 0, .string ⟨#[]⟩, .slice none 0 0, .slice none 0 0, .slice none 0 0]), 6, 104) := by kernel_rfl
def RLF (w : World) (L : List Nat) (e : Ending) (w' : World) : Prop :=
  ∃ a n c, n = L.length ∧ e = .returned (.tuple #[.agg #[.int .i64 5, .int .i64 0, .string ByteArray.empty, .slice a n c, .slice none 0 0, .slice none 0 0], .bool true]) ∧ w'.ownsRow w.heap.size 26 6 (.slice a n c) n (numsC L) ∧ Below w.heap.size w w'

def c6 (X : VC) : List Value := [.int .i64 X.kind, .int .i64 X.half, .string X.text, .slice X.la X.ln X.lc, .slice X.ka X.kn X.kc, .slice X.va X.vn X.vc]
theorem cells_new (w : World) (l : List Value) (t : TypeId) (b : Nat) (hb : b = w.heap.size) : ∀ j u, l[j]? = some u → (w.alloc (.cells l.toArray t)).cell? ((⟨b, 0, none⟩ : Addr).add j) = some u := by
  intro j u h
  subst hb
  have := (cell_of_block (heap_alloc_new w (.cells l.toArray t)) (0 + j)).1
  have e : (⟨w.heap.size, 0, none⟩ : Addr).add j = ⟨w.heap.size, 0 + j, none⟩ := by
    cases j <;> simp [Addr.add]
  rw [e, this]
  simpa using h
theorem set6 {w : World} {b : Nat} {t : TypeId} {v0 v1 v2 v3 v4 v5 : Value} (u0 u1 u2 u3 u4 u5 : Value) (h : w.heap[b]? = some (.cells #[v0, v1, v2, v3, v4, v5] t)) :
    ((((((w.setCell ⟨b, 0, none⟩ u0).setCell ⟨b, 1, none⟩ u1).setCell ⟨b, 2, none⟩ u2).setCell ⟨b, 3, none⟩ u3).setCell ⟨b, 4, none⟩ u4).setCell ⟨b, 5, none⟩ u5).heap[b]? = some (.cells #[u0, u1, u2, u3, u4, u5] t) := by
  exact (block_set (block_set (block_set (block_set (block_set (block_set h)))))).trans (by simp)
theorem ownsRow_set {w : World} {base e size n : Nat} {v : Value} {xs : List Value} (h : w.ownsRow base e size v n xs) (p : Addr) (u : Value) (hp : p.block < base) : (w.setCell p u).ownsRow base e size v n xs := by
  obtain ⟨h1, h2 | ⟨g, cap, cur, e1, e2, e3, e4, e5, e6, e7⟩⟩ := h
  · exact ⟨h1, Or.inl h2⟩
  · exact ⟨h1, Or.inr ⟨g, cap, cur, e1, e2, (Below.heap_setCell _ _ _ _ (by omega)).trans e3, e4, e5, e6, e7⟩⟩
theorem c6_one (X : VC) : ∀ u ∈ c6 X, u.oneCell' = true := by
  intro u hu
  simp only [c6, List.mem_cons, List.not_mem_nil, or_false] at hu
  rcases hu with rfl | rfl | rfl | rfl | rfl | rfl <;> rfl
theorem numsC_add (L : List Nat) (k x : Nat) (h : k < L.length) (hx : x = L.getD k 0) : numsC (L.take (k + 1)) = numsC (L.take k) ++ c6 (numC x) := by
  have e : L.take (k + 1) = L.take k ++ [x] := by
    rw [List.take_add_one, List.getElem?_eq_getElem h, hx, List.getD_eq_getElem?_getD, List.getElem?_eq_getElem h]; rfl
  rw [e]
  simp [numsC, c6, numC]
  rfl

set_option maxRecDepth 100000 in
set_option maxHeartbeats 4000000 in
theorem listFromGo_walk (L : List Nat) (hL : ∀ k ∈ L, k ≤ 2000) (hlen : L.length ≤ 2000) (a : Option Addr) (n c : Nat) (lo hi : Nat) (w : World) (hn : n = L.length) (hB : hi ≤ w.heap.size) (hr : Row w lo hi a n (fun i => iv (L.getD i 0))) :
    Calls Tryz.prog 100 #[.slice a n c] w (RLF w L) := by
  obtain ⟨POST, hP⟩ : ∃ P, RLF w L = P := ⟨_, rfl⟩
  rw [hP]
  obtain ⟨C, hC⟩ : ∃ C : Nat → Value, C = (fun i => iv (L.getD i 0)) := ⟨_, rfl⟩
  rw [← hC] at hr
  have HC := Lib.hid hC
  have HP := Lib.hid hP
  have HN := Lib.hid hn
  have hn2 : n ≤ 2000 := by omega
  clear hP hC hn
  obtain ⟨i0, hi0, hz0, hz1, hz2⟩ := info_parts info26
  go_enter Tryz.func100, Tryz.ntmps100
  go_wp2_with fail
  go_loopw [12] (fun i wr => ∃ (k : Nat) (a' : Option Addr) (c' : Nat), k ≤ n ∧ i = .int .i64 k ∧ Below w.heap.size w wr ∧ wr.heap[w.heap.size]? = some (.cells #[.int .i64 0, .int .i64 0, .string ⟨#[]⟩, .slice none 0 0, .slice none 0 0, .slice none 0 0] 26) ∧
      wr.heap[w.heap.size + 1]? = some (.cells #[.int .i64 5, .int .i64 0, .string ⟨#[]⟩, .slice a' k c', .slice none 0 0, .slice none 0 0] 26) ∧ wr.ownsRow (w.heap.size + 2) 26 6 (.slice a' k c') k (numsC (L.take k))) (fun i _ => n - (intOf i).toNat)
  case atStart =>
    refine ⟨0, none, 0, Nat.zero_le _, rfl, ((Below.refl _ _).alloc (Nat.le_refl _) _).alloc (by simp) _, ?_, ?_, World.ownsRow_nil _ _ _ _⟩
    · exact (heap_alloc_old _ _ (by simp)).trans (heap_alloc_new _ _)
    · have e := heap_alloc_new (w.alloc (Obj.cells #[Value.int IntKind.i64 0, Value.int IntKind.i64 0, Value.string { data := #[] }, Value.slice none 0 0, Value.slice none 0 0, Value.slice none 0 0] 26)) (Obj.cells #[Value.int IntKind.i64 5, Value.int IntKind.i64 0, Value.string { data := #[] }, Value.slice none 0 0, Value.slice none 0 0, Value.slice none 0 0] 26)
      simpa using e
  case round =>
    obtain ⟨k, a', c', hk, rfl, hbw, hres, hout, hown⟩ := hrel
    by_cases hlt : k < n
    · rcases hr with hr | ⟨b, off, ha, hlo, hlb, hr⟩
      · omega
      have c0 := (hbw.cell (p := ⟨b, off + k, none⟩) (by show b < _; omega)).trans (hr k hlt)
      clear hr
      have HOW := Lib.hid hown
      clear hown
      obtain ⟨x, hx⟩ : ∃ x, x = L.getD k 0 := ⟨_, rfl⟩
      have hCk : C k = iv x := by rw [HC.out, hx]
      have hx2 : x ≤ 2000 := by
        rw [hx, List.getD_eq_getElem?_getD]
        rcases Nat.lt_or_ge k L.length with h | h
        · rw [List.getElem?_eq_getElem h]; exact hL _ (List.getElem_mem h)
        · rw [List.getElem?_eq_none h]; simp
      have HX := Lib.hid hx
      clear hx
      have hcal := fromGo_int x hx2 wr
      rw [hCk] at c0
      have HCk := Lib.hid hCk
      clear hCk
      have hzz : w.heap.size + 1 < wr.heap.size := (Array.getElem?_eq_some_iff.1 hout).1
      go_wp2_with fail
      refine hcal.mono ?_
      rintro e w7 ⟨rfl, hb7⟩
      have hres7 := (hb7.block _ (by omega)).trans hres
      have hout7 := (hb7.block _ hzz).trans hout
      have hown7 := ownsRow_keep HOW.out hb7
      have hbw7 := hbw.trans (hb7.mono (by omega : w.heap.size ≤ wr.heap.size))
      have hz7 : w.heap.size + 1 < w7.heap.size := (Array.getElem?_eq_some_iff.1 hout7).1
      have c13 := (cell_of_block hout7 3).1
      have f13 := (cell_of_block hout7 3).2
      simp only [List.getElem?_toArray, List.getElem?_cons_succ, List.getElem?_cons_zero] at c13
      have Hres7 := Lib.hid hres7
      have Hout7 := Lib.hid hout7
      have Hown7 := Lib.hid hown7
      clear hres7 hout7 hown7 hres hout HOW c0 hcal
      have hnum : Hid (numsC (L.take (k + 1)) = numsC (L.take k) ++ c6 (numC x)) := Lib.hid (numsC_add L k x (by rw [← HN.out]; exact hlt) HX.out)
      generalize numC x = X at *
      go_wp2_with (first
        | (at_builtin; refine wpList_append_own _ rfl (.tmp 25) (.tmp 27) 23 rfl (w.heap.size + 2) 26 i0 _ 6 104 Tryz.underlying23 hi0 hz0 hz1 hz2 rfl (by decide) _ _ _ rfl ((Hown7.out.alloc _).alloc _) ⟨w7.heap.size + 1, 0, none⟩ 1 1 (c6 X) rfl rfl (cells_new _ (c6 X) 26 _ (by simp)) (c6_one X) (by unfold maxLen; omega) (by omega) (by simp; omega) ?_; intro v' w9 hown' hgrow _; obtain ⟨a9, c9, rfl⟩ := ownsRow_slice hown'; have hout9 := (hgrow.block (w.heap.size + 1) (by simp; omega) (fun e => by have := (Hown7.out.lt _ e.symm).1; omega)).trans ((heap_alloc_old _ _ (by simp; omega)).trans ((heap_alloc_old _ _ hz7).trans Hout7.out)); have hres9 := (hgrow.block (w.heap.size) (by simp; omega) (fun e => by have := (Hown7.out.lt _ e.symm).1; omega)).trans ((heap_alloc_old _ _ (by simp; omega)).trans ((heap_alloc_old _ _ (by omega)).trans Hres7.out)); have hbw9 := ((hbw7.alloc (by omega) _).alloc (by simp; omega) _).grown hgrow (by simp; omega) (fun j ej => by have := (Hown7.out.lt j ej).1; omega); have c93 := (cell_of_block hout9 3).1; have f93 := (cell_of_block hout9 3).2; simp only [List.getElem?_toArray, List.getElem?_cons_succ, List.getElem?_cons_zero] at c93; have Hout9 := Lib.hid hout9; have Hres9 := Lib.hid hres9; have Hown9 := Lib.hid hown'; clear hout9 hres9 hown')
        | fail)
      have hrel : ∃ (k' : Nat) (a' : Option Addr) (c' : Nat), k' ≤ n ∧ Value.int .i64 ((k : Int) + 1) = .int .i64 k' ∧ Below w.heap.size w (w9.setCell ⟨w.heap.size + 1, 3, none⟩ (.slice a9 (k + 1) c9)) ∧ (w9.setCell ⟨w.heap.size + 1, 3, none⟩ (.slice a9 (k + 1) c9)).heap[w.heap.size]? = some (.cells #[.int .i64 0, .int .i64 0, .string ⟨#[]⟩, .slice none 0 0, .slice none 0 0, .slice none 0 0] 26) ∧
          (w9.setCell ⟨w.heap.size + 1, 3, none⟩ (.slice a9 (k + 1) c9)).heap[w.heap.size + 1]? = some (.cells #[.int .i64 5, .int .i64 0, .string ⟨#[]⟩, .slice a' k' c', .slice none 0 0, .slice none 0 0] 26) ∧ (w9.setCell ⟨w.heap.size + 1, 3, none⟩ (.slice a9 (k + 1) c9)).ownsRow (w.heap.size + 2) 26 6 (.slice a' k' c') k' (numsC (L.take k')) := by
        refine ⟨k + 1, a9, c9, by omega, by go_num, hbw9.setCell (by show w.heap.size ≤ w.heap.size + 1; omega) _, (Below.heap_setCell _ _ _ _ (by show w.heap.size ≠ w.heap.size + 1; omega)).trans Hres9.out, (block_set Hout9.out).trans (by simp), ?_⟩
        rw [hnum.out]
        exact ownsRow_set Hown9.out _ _ (by show w.heap.size + 1 < _; omega)
      go_roundw
      case rel => first | exact hrel | ((repeat apply Exists.intro); exact ⟨hrel, by rw [ha]; try rfl⟩)
      case measure => simp [intOf]; omega
    · obtain rfl : k = n := by omega
      have hown2 : wr.ownsRow (w.heap.size + 2) 26 6 (.slice a' k c') k (numsC L) := by
        have e : L.take k = L := by rw [HN.out, List.take_length]
        rw [e] at hown
        exact hown
      clear hown
      have HO := Lib.hid hown2
      clear hown2
      obtain ⟨d0, d1, d2, d3, d4, d5⟩ := cells6 hout
      have q0 := cell_of_block hres
      have q00 := q0 0
      have q01 := q0 1
      have q02 := q0 2
      have q03 := q0 3
      have q04 := q0 4
      have q05 := q0 5
      simp only [List.getElem?_toArray, List.getElem?_cons_succ, List.getElem?_cons_zero] at q00 q01 q02 q03 q04 q05
      clear q0
      go_wp2_with fail
      have hs6 := set6 (.int .i64 5) (.int .i64 0) (.string ⟨#[]⟩) (.slice a' k c') (.slice none 0 0) (.slice none 0 0) hres
      have ho6 := ownsRow_set (ownsRow_set (ownsRow_set (ownsRow_set (ownsRow_set (ownsRow_set HO.out ⟨w.heap.size, 0, none⟩ (.int .i64 5) (by show w.heap.size < _; omega)) ⟨w.heap.size, 1, none⟩ (.int .i64 0) (by show w.heap.size < _; omega)) ⟨w.heap.size, 2, none⟩ (.string ⟨#[]⟩) (by show w.heap.size < _; omega)) ⟨w.heap.size, 3, none⟩ (.slice a' k c') (by show w.heap.size < _; omega)) ⟨w.heap.size, 4, none⟩ (.slice none 0 0) (by show w.heap.size < _; omega)) ⟨w.heap.size, 5, none⟩ (.slice none 0 0) (by show w.heap.size < _; omega)
      have hb6 := (((((hbw.setCell (p := ⟨w.heap.size, 0, none⟩) (Nat.le_refl _) (.int .i64 5)).setCell (p := ⟨w.heap.size, 1, none⟩) (Nat.le_refl _) (.int .i64 0)).setCell (p := ⟨w.heap.size, 2, none⟩) (Nat.le_refl _) (.string ⟨#[]⟩)).setCell (p := ⟨w.heap.size, 3, none⟩) (Nat.le_refl _) (.slice a' k c')).setCell (p := ⟨w.heap.size, 4, none⟩) (Nat.le_refl _) (.slice none 0 0)).setCell (p := ⟨w.heap.size, 5, none⟩) (Nat.le_refl _) (.slice none 0 0)
      generalize ((((((wr.setCell _ _).setCell _ _).setCell _ _).setCell _ _).setCell _ _).setCell _ _) = w9 at hs6 ho6 hb6 ⊢
      obtain ⟨d0, d1, d2, d3, d4, d5⟩ := cells6 hs6
      rw [← HP.out]
      refine bodyPost_ret (v := .tuple #[.agg #[.int .i64 5, .int .i64 0, .string ByteArray.empty, .slice a' k c', .slice none 0 0, .slice none 0 0], .bool true]) ?_ rfl ⟨a', k, c', HN.out, rfl, ownsRow_base ho6 (by omega), hb6⟩
      rw [results_cell_tmp rfl]
      go_simp
      first | rfl | skip
end Go.Proofs.YtaockngppbeanaaGreatDoor
