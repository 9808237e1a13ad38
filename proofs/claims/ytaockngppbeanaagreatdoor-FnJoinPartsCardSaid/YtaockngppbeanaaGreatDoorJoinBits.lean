/- laws.array, laws.joined and laws.given, at texts. -/
import Derived.Test.YtaockngppbeanaaGreatDoorImplJoin
import Derived.Test.YtaockngppbeanaaGreatDoorTold
namespace Go.Proofs.YtaockngppbeanaaGreatDoor
open Go.RowKit

set_option maxRecDepth 100000 in
set_option maxHeartbeats 4000000 in
theorem arr_any (a : Option Addr) (n c : Nat) (w : World) : Calls Tryz.prog 11 #[.slice a n c] w fun e w' => e = .returned (listV a n c) ∧ Below w.heap.size w w' := by
  go_enter Tryz.func11, Tryz.ntmps11
  go_wp2_with fail
  refine bodyPost_ret (v := listV a n c) ?_ rfl ⟨rfl, (Below.refl _ _).alloc (Nat.le_refl _) _⟩
  exact results_cell_row rfl _ _ w.heap.size 26 _ (0, 0) _ rfl (heap_alloc_new _ _) Tryz.underlying26 rfl (by kernel_rfl)

/-- Rows of texts in six cells each. -/
def textsC (L : List ByteArray) : List Value := L.flatMap fun s => c6 (textC s)
theorem textsC_append (L M : List ByteArray) : textsC (L ++ M) = textsC L ++ textsC M := by simp [textsC]
theorem textsC_len (L : List ByteArray) : (textsC L).length = L.length * 6 := by
  induction L with
  | nil => rfl
  | cons x r ih =>
    have e : textsC (x :: r) = c6 (textC x) ++ textsC r := rfl
    rw [e, List.length_append, ih, List.length_cons]
    simp [c6]; omega
theorem textsC_one (L : List ByteArray) : ∀ u ∈ textsC L, u.oneCell' = true := by
  intro u hu
  simp only [textsC, List.mem_flatMap] at hu
  obtain ⟨s, _, hu⟩ := hu
  exact c6_one _ u hu
theorem textsC_get : ∀ (L : List ByteArray) (i j : Nat), i < L.length → j < 6 → (textsC L)[i * 6 + j]? = (c6 (textC (L.getD i ByteArray.empty)))[j]?
  | x :: r, 0, j, _, hj => by
    have e : textsC (x :: r) = c6 (textC x) ++ textsC r := rfl
    rw [e, List.getElem?_append_left (by simp [c6]; omega)]; simp
  | x :: r, i + 1, j, hi, hj => by
    have e : textsC (x :: r) = c6 (textC x) ++ textsC r := rfl
    have hl : (c6 (textC x)).length = 6 := rfl
    rw [e, List.getElem?_append_right (by rw [hl]; omega), hl]
    have := textsC_get r i j (by simpa using hi) hj
    have e2 : (i + 1) * 6 + j - 6 = i * 6 + j := by omega
    rw [e2, this]; simp

/-- An owned row of texts, element by element. -/
theorem row_texts {w : World} {base n c hi : Nat} {a : Option Addr} {L : List ByteArray} (h : w.ownsRow base 26 6 (.slice a n c) n (textsC L)) (hn : n = L.length) (hh : w.heap.size ≤ hi) : Row6 w hi a n (fun i => textC (L.getD i ByteArray.empty)) := by
  obtain ⟨h1, ⟨e, h2⟩ | ⟨g, cap, cur, e1, e2, e3, e4, e5, e6, e7⟩⟩ := h
  · exact Or.inl h2
  · injection e1 with x1 x2 x3
    subst x1 x3
    have hg := (Array.getElem?_eq_some_iff.1 e3).1
    refine Or.inr ⟨g, 0, rfl, by omega, fun i hi => ?_⟩
    have cell : ∀ j, j < 6 → w.cell? ⟨g, 0 + i * 6 + j, none⟩ = (c6 (textC (L.getD i ByteArray.empty)))[j]? := fun j hj => by
      rw [(cell_of_block e3 _).1, ← textsC_get L i j (by omega) hj, ← e7, List.getElem?_take_of_lt (by omega)]
      simp
    exact ⟨by simpa [c6] using cell 0 (by omega), by simpa [c6] using cell 1 (by omega), by simpa [c6] using cell 2 (by omega), by simpa [c6] using cell 3 (by omega), by simpa [c6] using cell 4 (by omega), by simpa [c6] using cell 5 (by omega)⟩

theorem Tidy.text (s : ByteArray) : Tidy (textJ s) :=
  .mk _ _ _ _ _ _ (by decide) (by decide) (Or.inr rfl) (Or.inl rfl) (Or.inr rfl) (Or.inr rfl) rfl (by decide) (by decide) (fun x h => by simp at h) (fun x h => by simp at h)

set_option maxRecDepth 100000 in
set_option maxHeartbeats 4000000 in
theorem given_text (s t : ByteArray) (hs : s.size ≤ 140737488351232) (he : s = t) (w : World) : Calls Tryz.prog 14 #[resT s, textV t] w (RB w fun r => r = true) := by
  subst he
  have ht := fun wr => told_fine (textC s) (textC s) (textJ s) (textJ s) (World.heap wr).size wr (VRep.text wr _ s hs) (VRep.text wr _ s hs) (Nat.le_refl _) (Tidy.text s) (Tidy.text s) rfl
  have hb2 : ∀ o1 o2, Below w.heap.size w ((w.alloc o1).alloc o2) := fun o1 o2 => ((Below.refl _ _).alloc (Nat.le_refl _) _).alloc (by simp) _
  unfold resT
  go_enter Tryz.func14, Tryz.ntmps14
  go_wp2_with fail
  refine (ht _).mono ?_
  rintro e w3 ⟨r, rfl, hr, hb⟩
  obtain rfl := hr.out
  go_wp2_with fail
  go_ret
  exact ⟨_, rfl, Lib.hid rfl, (hb2 _ _).trans (hb.mono (by simp; omega))⟩

/-- What joined answers. -/
def RJd (w : World) (L : List ByteArray) (e : Ending) (w' : World) : Prop := ∃ a c, e = .returned (.slice a L.length c) ∧ w'.ownsRow w.heap.size 26 6 (.slice a L.length c) L.length (textsC L) ∧ Below w.heap.size w w'

theorem own_newsN {w : World} {base n c g : Nat} {xs : List Value} (h : w.ownsRow base 26 6 (.slice (some ⟨g, 0, none⟩) n c) n xs) : ∀ j u, xs[j]? = some u → w.cell? ((⟨g, 0, none⟩ : Addr).add j) = some u := by
  obtain ⟨h1, ⟨e, h2⟩ | ⟨g', cap, cur, e1, e2, e3, e4, e5, e6, e7⟩⟩ := h
  · injection e with e; cases e
  · injection e1 with x1 x2 x3
    injection x1 with x1
    injection x1 with x1
    subst x1
    intro j u hu
    have hj := (List.getElem?_eq_some_iff.1 hu).1
    have e : (⟨g, 0, none⟩ : Addr).add j = ⟨g, 0 + j, none⟩ := by cases j <;> simp [Addr.add]
    rw [e, (cell_of_block e3 _).1, ← hu, ← e7, List.getElem?_take_of_lt (by rw [h1] at hj; exact hj)]
    simp

/-- Another row beside one that grows. -/
theorem own_grown {w w' : World} {base n c g row : Nat} {xs : List Value} (h : w.ownsRow base 26 6 (.slice (some ⟨g, 0, none⟩) n c) n xs) (hg : w.grownBy w' (some row)) (hne : g ≠ row) : w'.ownsRow base 26 6 (.slice (some ⟨g, 0, none⟩) n c) n xs := by
  obtain ⟨h1, ⟨e, h2⟩ | ⟨g', cap, cur, e1, e2, e3, e4, e5, e6, e7⟩⟩ := h
  · injection e with e; cases e
  · have hgg : g' = g := by injection e1 with x1 _ _; injection x1 with x1; injection x1 with x1; exact x1.symm
    exact ⟨h1, Or.inr ⟨g', cap, cur, e1, e2, (hg.block g' (Array.getElem?_eq_some_iff.1 e3).1 (fun e => by injection e with e; omega)).trans e3, e4, e5, e6, e7⟩⟩

set_option maxRecDepth 100000 in
set_option maxHeartbeats 4000000 in
theorem joined_any (L M : List ByteArray) (hL : L.length ≤ 400) (hM : M.length ≤ 400) (g g' c c' b1 b2 : Nat) (w : World) (hg2 : g' < w.heap.size) (h1 : w.ownsRow b1 26 6 (.slice (some ⟨g, 0, none⟩) L.length c) L.length (textsC L)) (h2 : w.ownsRow b2 26 6 (.slice (some ⟨g', 0, none⟩) M.length c') M.length (textsC M)) :
    Calls Tryz.prog 13 #[.slice (some ⟨g, 0, none⟩) L.length c, .slice (some ⟨g', 0, none⟩) M.length c'] w (RJd w (L ++ M)) := by
  obtain ⟨i0, hi0, hz0, hz1, hz2⟩ := info_parts info26
  have hfin : Hid (∀ a c w', w'.ownsRow w.heap.size 26 6 (.slice a (L.length + M.length) c) (L.length + M.length) (textsC L ++ textsC M) → Below w.heap.size w w' → RJd w (L ++ M) (.returned (.slice a (L.length + M.length) c)) w') := Lib.hid (fun a c w' ho hb => ⟨a, c, by rw [List.length_append], by rw [List.length_append, textsC_append]; exact ho, hb⟩)
  have HL := Lib.hid (textsC_len L)
  have HM := Lib.hid (textsC_len M)
  have H1 := Lib.hid h1
  have H2 := Lib.hid h2
  obtain ⟨POST, hP⟩ : ∃ R, RJd w (L ++ M) = R := ⟨_, rfl⟩
  rw [hP] at hfin ⊢
  clear hP h1 h2
  generalize L.length = n at *
  generalize M.length = m at *
  go_enter Tryz.func13, Tryz.ntmps13
  have hm0 : (w.alloc (.cells #[] 26)).ownsRow w.heap.size 26 6 (.slice (some ⟨w.heap.size, 0, none⟩) 0 0) 0 [] := World.ownsRow_made w #[] 0 (Nat.le_refl _) (by decide) rfl
  have HM0 := Lib.hid hm0
  have hbb : Below w.heap.size w (w.alloc (.cells #[] 26)) := (Below.refl _ _).alloc (Nat.le_refl _) _
  clear hm0
  go_wp2_with (first
    | (at_builtin; refine wpList_append_own _ rfl (.tmp 5) (.tmp 6) 23 rfl w.heap.size 26 i0 _ 6 104 Tryz.underlying23 hi0 hz0 hz1 hz2 rfl (by decide) (.slice (some ⟨w.heap.size, 0, none⟩) 0 0) 0 [] rfl HM0.out ⟨g, 0, none⟩ n c (textsC L) rfl HL.out (own_newsN (H1.out.alloc _)) (textsC_one L) (by unfold maxLen; omega) (by omega) (by simp) ?_; intro v' w1 hown1 hgrow _; simp only [Nat.zero_add, List.nil_append] at hown1; obtain ⟨a1, c1, rfl⟩ := ownsRow_slice hown1; have hbl1 := hbb.grown hgrow (by simp) (fun j ej => by cases ej; exact Nat.le_refl _); have hgr := hgrow; have H2b := Lib.hid (own_grown (H2.out.alloc (.cells #[] 26)) hgrow (Nat.ne_of_lt hg2)); have hown2 := Lib.hid hown1; clear hown1 hgrow hgr)
    | (at_builtin; refine wpList_append_own _ rfl (.tmp 7) (.tmp 8) 23 rfl w.heap.size 26 i0 _ 6 104 Tryz.underlying23 hi0 hz0 hz1 hz2 rfl (by decide) (.slice a1 n c1) n (textsC L) rfl hown2.out ⟨g', 0, none⟩ m c' (textsC M) rfl HM.out (own_newsN H2b.out) (textsC_one M) (by unfold maxLen; omega) (by omega) hbl1.size ?_; intro v' w9 hown9 hgrow9 _; obtain ⟨a9, c9, rfl⟩ := ownsRow_slice hown9; have hbl9 := hbl1.grown hgrow9 hbl1.size (fun j ej => (hown2.out.lt j ej).1); have Hown9 := Lib.hid hown9; clear hown9 hgrow9)
    | fail)
  exact hfin.out _ _ _ Hown9.out hbl9
end Go.Proofs.YtaockngppbeanaaGreatDoor
