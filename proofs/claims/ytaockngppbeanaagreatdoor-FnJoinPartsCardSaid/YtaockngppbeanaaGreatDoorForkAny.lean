/- The law's drawn region of twenty operations, walked. Condition: two lists of at least one text and at most 400, of 2000 bytes at most. -/
import Derived.Test.YtaockngppbeanaaGreatDoorFork
namespace Go.Proofs.YtaockngppbeanaaGreatDoor
open Go.RowKit

def forkDeps : List (Nat × Nat) := [(1, 0), (3, 1), (3, 2), (5, 4), (7, 5), (7, 6), (10, 8), (10, 9), (11, 10), (13, 11), (13, 12), (17, 14), (17, 3), (17, 13), (18, 15), (18, 7), (18, 17), (19, 16), (19, 13), (19, 17)]
def Closed (L : Array Bool) : Prop := ∀ d ∈ forkDeps, L.getD d.1 false = true → L.getD d.2 false = true
theorem open17 {L : Array Bool} (h : Closed L) {i : Nat} (hi : i = 11 ∨ i = 13) (hl : L.getD i false = false) : L.getD 17 false = false := by
  cases e : L.getD 17 false with
  | false => rfl
  | true =>
    have h13 := h (17, 13) (by decide) e
    have h11 := h (13, 11) (by decide) h13
    rcases hi with rfl | rfl
    · rw [h11] at hl; cases hl
    · rw [h13] at hl; cases hl

set_option maxRecDepth 100000 in
set_option maxHeartbeats 4000000 in
theorem fork_any {ops : Array Oper} {id : Nat} {Q : Exit → Act → World → Prop} {a : Act} {w : World} {t0 t1 t2 t3 t4 t5 t6 t7 t8 t9 t10 t11 t12 t13 t14 t15 t16 t17 t18 t19 : TypeId} {p0 p1 p2 p3 p4 p5 p6 p7 p8 p9 p10 p11 p12 p13 p14 p15 p16 p17 p18 p19 : String} {f0 f1 f2 f3 f4 f5 f6 f7 f8 f9 f10 f11 f12 f13 f14 f15 f16 f17 f18 f19 : Array Edge} {s1 s3 s5 s7 s10 s11 s13 : Array TypeId} (hz : ops.size = 20) (hd : (forkDeps.all fun d => depOk ops d.1 d.2) = true) (hb : backOk ops = true)
    (h0 : ops[0]? = some ⟨some 72, .move (.tmp 7), t0, p0, f0, none⟩)
    (h1 : ops[1]? = some ⟨some 73, .call { callee := .value (.func 11), args := #[.tmp 72], argTypes := s1 }, t1, p1, f1, none⟩)
    (h2 : ops[2]? = some ⟨some 74, .load 26 (.tmp 13), t2, p2, f2, none⟩)
    (h3 : ops[3]? = some ⟨some 75, .call { callee := .value (.func 12), args := #[.tmp 73, .tmp 74], argTypes := s3 }, t3, p3, f3, none⟩)
    (h4 : ops[4]? = some ⟨some 76, .move (.tmp 8), t4, p4, f4, none⟩)
    (h5 : ops[5]? = some ⟨some 77, .call { callee := .value (.func 11), args := #[.tmp 76], argTypes := s5 }, t5, p5, f5, none⟩)
    (h6 : ops[6]? = some ⟨some 78, .load 26 (.tmp 13), t6, p6, f6, none⟩)
    (h7 : ops[7]? = some ⟨some 79, .call { callee := .value (.func 12), args := #[.tmp 77, .tmp 78], argTypes := s7 }, t7, p7, f7, none⟩)
    (h8 : ops[8]? = some ⟨some 80, .move (.tmp 7), t8, p8, f8, none⟩)
    (h9 : ops[9]? = some ⟨some 81, .move (.tmp 8), t9, p9, f9, none⟩)
    (h10 : ops[10]? = some ⟨some 82, .call { callee := .value (.func 13), args := #[.tmp 80, .tmp 81], argTypes := s10 }, t10, p10, f10, none⟩)
    (h11 : ops[11]? = some ⟨some 83, .call { callee := .value (.func 11), args := #[.tmp 82], argTypes := s11 }, t11, p11, f11, none⟩)
    (h12 : ops[12]? = some ⟨some 84, .load 26 (.tmp 13), t12, p12, f12, none⟩)
    (h13 : ops[13]? = some ⟨some 85, .call { callee := .value (.func 12), args := #[.tmp 83, .tmp 84], argTypes := s13 }, t13, p13, f13, none⟩)
    (h14 : ops[14]? = some ⟨some 14, .alloc 34, t14, p14, f14, none⟩)
    (h15 : ops[15]? = some ⟨some 15, .alloc 34, t15, p15, f15, none⟩)
    (h16 : ops[16]? = some ⟨some 16, .alloc 34, t16, p16, f16, none⟩)
    (h17 : ops[17]? = some ⟨none, .store 34 (.tmp 14) (.tmp 75), t17, p17, f17, none⟩)
    (h18 : ops[18]? = some ⟨none, .store 34 (.tmp 15) (.tmp 79), t18, p18, f18, none⟩)
    (h19 : ops[19]? = some ⟨none, .store 34 (.tmp 16) (.tmp 85), t19, p19, f19, none⟩)
    (P : Par) (bA bB : Nat) (hsA : ∀ s ∈ P.A, s.size ≤ 2000) (hsB : ∀ s ∈ P.B, s.size ≤ 2000) (hsC : ∀ s ∈ P.A ++ P.B, s.size ≤ 2000) (hss : P.s.size ≤ 2000) (hlA : P.A.length ≤ 400) (hlB : P.B.length ≤ 400) (hpA : 0 < P.A.length) (hpB : 0 < P.B.length)
    (hrA : P.rA = joinB ⟨P.s, hss⟩ (fT P.A hsA) P.A.length) (hrB : P.rB = joinB ⟨P.s, hss⟩ (fT P.B hsB) P.B.length) (hrC : P.rC = joinB ⟨P.s, hss⟩ (fT (P.A ++ P.B) hsC) (P.A ++ P.B).length)
    (hw : P.w0 = w) (hm5 : w.heap[P.b5]? = some (.cells #[.int .i64 4, .int .i64 0, .string P.s, .slice none 0 0, .slice none 0 0, .slice none 0 0] 26))
    (hoA : w.ownsRow bA 26 6 (.slice (some ⟨P.g, 0, none⟩) P.A.length P.c) P.A.length (textsC P.A)) (hoB : w.ownsRow bB 26 6 (.slice (some ⟨P.g', 0, none⟩) P.B.length P.c') P.B.length (textsC P.B))
    (sz : a.tmps.size = 108) (df : a.defers = []) (t2' : a.tmps[2]? = some (.string P.s)) (t7' : a.tmps[7]? = some (.slice (some ⟨P.g, 0, none⟩) P.A.length P.c)) (t8' : a.tmps[8]? = some (.slice (some ⟨P.g', 0, none⟩) P.B.length P.c')) (t13' : a.tmps[13]? = some (.pointer (some ⟨P.b5, 0, none⟩)))
    (hQ : ∀ a' w', Forked P a' w' → Q .normal a' w') : (Code.region id ops true).wp Tryz.prog Q a w := by
  subst hw
  have hz0 : ∀ i, (Array.replicate ops.size false).getD i false = false := fun i => by
    rw [Array.getD_eq_getD_getElem?, Array.getElem?_replicate]; split <;> rfl
  refine wp_region_inv (by kernel_rfl) (fun L a w => Fk P L a w ∧ Closed L) ?_ ?_ ?_
  · intro L a w ⟨h, hcl⟩ i hi
    have hu := ready_unlisted hi
    have hlt : i < 20 := by have := (Array.getElem?_eq_some_iff.1 hu).1; rw [h.ls] at this; exact this
    have hl : L.getD i false = false := by rw [Array.getD_eq_getD_getElem?, hu]; rfl
    have D : ∀ j, (i, j) ∈ forkDeps → L.getD j false = true := fun j hm => ready_dep hi (List.all_eq_true.1 hd (i, j) hm)
    have hcl' : Closed (L.setIfInBounds i true) := fun d hm e => by
      have h2 : L.getD d.2 false = true := by
        by_cases hdi : i = d.1
        · exact D d.2 (by rw [hdi]; exact hm)
        · rw [getD_other hdi] at e; exact hcl d hm e
      by_cases hd2 : i = d.2
      · rw [← hd2, getD_same (by rw [h.ls]; exact hlt)]
      · rw [getD_other hd2]; exact h2
    refine wpOp_mono (fun a' w' hf => ⟨hf, hcl'⟩) ?_
    clear hcl'
    have hoA' := Lib.hid (ownsRow_keep hoA h.bl)
    have hoB' := Lib.hid (ownsRow_keep hoB h.bl)
    have hm5' := (h.bl.block _ (Array.getElem?_eq_some_iff.1 hm5).1).trans hm5
    clear hi hu hd hb hz0 hQ hoA hoB
    have hc : i = 0 ∨ i = 1 ∨ i = 2 ∨ i = 3 ∨ i = 4 ∨ i = 5 ∨ i = 6 ∨ i = 7 ∨ i = 8 ∨ i = 9 ∨ i = 10 ∨ i = 11 ∨ i = 12 ∨ i = 13 ∨ i = 14 ∨ i = 15 ∨ i = 16 ∨ i = 17 ∨ i = 18 ∨ i = 19 := by omega
    rcases hc with rfl | rfl | rfl | rfl | rfl | rfl | rfl | rfl | rfl | rfl | rfl | rfl | rfl | rfl | rfl | rfl | rfl | rfl | rfl | rfl
    · skip
      exact op_move h0 h.t7 (h.step 0 (by decide) hl (Below.refl _ _) rfl trivial (fun e => absurd e (by decide)))
    · skip
      obtain ⟨_, e, rfl, _⟩ := h.good 0 (by decide) (D 0 (by decide))
      refine op_call11 h1 e ((arr_any _ _ _ _).mono ?_)
      rintro e w' ⟨he, hb⟩
      exact ⟨_, he, h.step 1 (by decide) hl hb rfl trivial (fun e => absurd e (by decide))⟩
    · skip
      exact op_load h2 h.t13 hm5' (h.step 2 (by decide) hl (Below.refl _ _) rfl trivial (fun e => absurd e (by decide)))
    · skip
      obtain ⟨_, e, rfl, _⟩ := h.good 1 (by decide) (D 1 (by decide))
      obtain ⟨_, e2, rfl, _⟩ := h.good 2 (by decide) (D 2 (by decide))
      refine op_call12 h3 e e2 ((implJoin_any P.A hsA (by omega) hpA ⟨P.s, hss⟩ _ _ (fun i => textC (P.A.getD i ByteArray.empty)) w.heap.size w (Nat.le_refl _) (row_texts hoA'.out rfl (Nat.le_refl _)) (fun _ _ => rfl)).mono ?_)
      rintro e w' ⟨he, hb⟩
      exact ⟨resT P.rA, by rw [hrA]; exact he, h.step 3 (by decide) hl hb rfl trivial (fun e => absurd e (by decide))⟩
    · skip
      exact op_move h4 h.t8 (h.step 4 (by decide) hl (Below.refl _ _) rfl trivial (fun e => absurd e (by decide)))
    · skip
      obtain ⟨_, e, rfl, _⟩ := h.good 4 (by decide) (D 4 (by decide))
      refine op_call11 h5 e ((arr_any _ _ _ _).mono ?_)
      rintro e w' ⟨he, hb⟩
      exact ⟨_, he, h.step 5 (by decide) hl hb rfl trivial (fun e => absurd e (by decide))⟩
    · skip
      exact op_load h6 h.t13 hm5' (h.step 6 (by decide) hl (Below.refl _ _) rfl trivial (fun e => absurd e (by decide)))
    · skip
      obtain ⟨_, e, rfl, _⟩ := h.good 5 (by decide) (D 5 (by decide))
      obtain ⟨_, e2, rfl, _⟩ := h.good 6 (by decide) (D 6 (by decide))
      refine op_call12 h7 e e2 ((implJoin_any P.B hsB (by omega) hpB ⟨P.s, hss⟩ _ _ (fun i => textC (P.B.getD i ByteArray.empty)) w.heap.size w (Nat.le_refl _) (row_texts hoB'.out rfl (Nat.le_refl _)) (fun _ _ => rfl)).mono ?_)
      rintro e w' ⟨he, hb⟩
      exact ⟨resT P.rB, by rw [hrB]; exact he, h.step 7 (by decide) hl hb rfl trivial (fun e => absurd e (by decide))⟩
    · skip
      exact op_move h8 h.t7 (h.step 8 (by decide) hl (Below.refl _ _) rfl trivial (fun e => absurd e (by decide)))
    · skip
      exact op_move h9 h.t8 (h.step 9 (by decide) hl (Below.refl _ _) rfl trivial (fun e => absurd e (by decide)))
    · skip
      obtain ⟨_, e, rfl, _⟩ := h.good 8 (by decide) (D 8 (by decide))
      obtain ⟨_, e2, rfl, _⟩ := h.good 9 (by decide) (D 9 (by decide))
      refine op_call13 h10 e e2 ((joined_any P.A P.B hlA hlB P.g P.g' P.c P.c' bA bB w (hoB'.out.lt P.g' rfl).2 hoA'.out hoB'.out).mono ?_)
      rintro e w' ⟨av, cv, he, ho, hb⟩
      exact ⟨_, he, h.step 10 (by decide) hl hb trivial (fun _ => ⟨av, cv, rfl, ownsRow_base ho h.bl.size⟩) (fun e => absurd e (by decide))⟩
    · skip
      obtain ⟨_, e, _, hli⟩ := h.good 10 (by decide) (D 10 (by decide))
      obtain ⟨av, cv, rfl, ho⟩ := hli (open17 hcl (by decide) hl)
      refine op_call11 h11 e ((arr_any _ _ _ _).mono ?_)
      rintro e w' ⟨he, hb⟩
      exact ⟨_, he, h.step 11 (by decide) hl hb trivial (fun _ => ⟨av, cv, rfl, ownsRow_keep ho hb⟩) (fun e => absurd e (by decide))⟩
    · skip
      exact op_load h12 h.t13 hm5' (h.step 12 (by decide) hl (Below.refl _ _) rfl trivial (fun e => absurd e (by decide)))
    · skip
      obtain ⟨_, e, _, hli⟩ := h.good 11 (by decide) (D 11 (by decide))
      obtain ⟨av, cv, rfl, ho⟩ := hli (open17 hcl (by decide) hl)
      obtain ⟨_, e2, rfl, _⟩ := h.good 12 (by decide) (D 12 (by decide))
      refine op_call12 h13 e e2 ((implJoin_any (P.A ++ P.B) hsC (by rw [List.length_append]; omega) (by rw [List.length_append]; omega) ⟨P.s, hss⟩ _ _ (fun i => textC ((P.A ++ P.B).getD i ByteArray.empty)) w.heap.size w (Nat.le_refl _) (row_texts ho rfl (Nat.le_refl _)) (fun _ _ => rfl)).mono ?_)
      rintro e w' ⟨he, hb⟩
      exact ⟨resT P.rC, by rw [hrC]; exact he, h.step 13 (by decide) hl hb rfl trivial (fun e => absurd e (by decide))⟩
    · skip
      have f14' : L.getD 17 false = false := by
        cases e : L.getD 17 false with
        | false => rfl
        | true => rw [hcl (17, 14) (by decide) e] at hl; cases hl
      exact op_alloc h14 (h.step 14 (by decide) hl ((Below.refl _ _).alloc (Nat.le_refl _) _) trivial ⟨_, rfl, h.bl.size, by rw [f14']; exact heap_alloc_new w zero34⟩ (fun _ => rfl))
    · skip
      have f15' : L.getD 18 false = false := by
        cases e : L.getD 18 false with
        | false => rfl
        | true => rw [hcl (18, 15) (by decide) e] at hl; cases hl
      exact op_alloc h15 (h.step 15 (by decide) hl ((Below.refl _ _).alloc (Nat.le_refl _) _) trivial ⟨_, rfl, h.bl.size, by rw [f15']; exact heap_alloc_new w zero34⟩ (fun _ => rfl))
    · skip
      have f16' : L.getD 19 false = false := by
        cases e : L.getD 19 false with
        | false => rfl
        | true => rw [hcl (19, 16) (by decide) e] at hl; cases hl
      exact op_alloc h16 (h.step 16 (by decide) hl ((Below.refl _ _).alloc (Nat.le_refl _) _) trivial ⟨_, rfl, h.bl.size, by rw [f16']; exact heap_alloc_new w zero34⟩ (fun _ => rfl))
    · obtain ⟨p, e1, e2, e3, hf⟩ := h.store17 hl (D 14 (by decide)) (D 3 (by decide)) (getD_same (by rw [h.ls]; decide)) (D 13 (by decide)) (hcl (13, 11) (by decide) (D 13 (by decide))) (hcl (11, 10) (by decide) (hcl (13, 11) (by decide) (D 13 (by decide))))
      exact op_store h17 e1 e2 e3 hf
    · obtain ⟨p, e1, e2, e3, hf⟩ := h.store18 hl (D 15 (by decide)) (D 7 (by decide)) (by rw [getD_other (by decide)]; exact D 17 (by decide))
      exact op_store h18 e1 e2 e3 hf
    · obtain ⟨p, e1, e2, e3, hf⟩ := h.store19 hl (D 16 (by decide)) (D 13 (by decide)) (by rw [getD_other (by decide)]; exact D 17 (by decide))
      exact op_store h19 e1 e2 e3 hf
  · intro L a w ⟨h, _⟩ hr
    exact hQ _ _ (h.done (fun i hi => all_listed (by rw [h.ls, hz]) hb hr i (by omega)))
  · refine ⟨⟨by rw [Array.size_replicate]; exact hz, sz, df, t2', t7', t8', t13', (Below.refl _ _).drew, (fun i _ e => by rw [hz0 i] at e; cases e), (fun i j _ _ _ e _ => by rw [hz0 i] at e; cases e), (fun e => by rw [hz0 17] at e; cases e), (fun e => by rw [hz0 18] at e; cases e), (fun e => by rw [hz0 19] at e; cases e)⟩, fun d _ e => by rw [hz0 d.1] at e; cases e⟩
end Go.Proofs.YtaockngppbeanaaGreatDoor
