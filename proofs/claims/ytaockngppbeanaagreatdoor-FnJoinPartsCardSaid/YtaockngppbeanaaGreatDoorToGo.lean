/- impl.toGo: a right value as gojq takes it, in new memory. -/
import Derived.Test.YtaockngppbeanaaGreatDoorToMap
import Derived.Test.YtaockngppbeanaaGreatDoorCmp
namespace Go.Proofs.YtaockngppbeanaaGreatDoor
open Go.RowKit

theorem Filled.row {w : World} {b n : Nat} {ls : List JV} (h : Filled w b n n ls) (hn : n = ls.length) (hb : b < w.heap.size) (hn2 : n ≤ 400) :
    GRep w b w.heap.size (.iface 71 (.slice (some ⟨b, 0, none⟩) n n)) ⟨5, 0, ByteArray.empty, ls, [], []⟩ := by
  obtain ⟨arr, h1, h2, h3⟩ := h
  subst hn
  refine .list _ _ (fun i => arr[i]?.getD undef) ls (Nat.le_refl _) (by omega) (Or.inr ⟨b, 0, rfl, Nat.le_refl _, hb, fun i hi => ?_⟩) (fun i hi => ?_)
  · rw [(cell_of_block h1 _).1, Nat.zero_add, Array.getElem?_eq_getElem (by omega)]; simp [Array.getElem?_eq_getElem (show i < arr.size by omega)]
  · obtain ⟨v, hv, hg⟩ := h3 i hi
    have e : ls.getD i dfl = ls[i] := by rw [List.getD_eq_getElem?_getD, List.getElem?_eq_getElem hi]; rfl
    rw [hv, Option.getD_some, ← e]
    exact hg.keep (SameOn.refl _ _ _) (by omega) (Nat.le_refl _)

theorem MFilled.rep {w : World} {r n : Nat} {ks : List ByteArray} {vs : List JV} (h : MFilled w r n ks vs) (hn : n = ks.length) (hl : ks.length = vs.length) (hr : r < w.heap.size) (hn2 : n ≤ 400)
    (ord : ∀ i, i + 1 < ks.length → lessB (ks.getD i ByteArray.empty) (ks.getD (i + 1) ByteArray.empty)) (sk : ∀ s ∈ ks, s.size ≤ 2000) :
    GRep w r w.heap.size (.iface 74 (.map (some r))) ⟨6, 0, ByteArray.empty, [], ks, vs⟩ := by
  obtain ⟨V, h1, h2⟩ := h
  subst hn
  refine .map r ks vs V (Nat.le_refl _) hr h1 hl (by omega) ord sk (fun i hi => ?_)
  have e : vs.getD i dfl = vs[i] := by rw [List.getD_eq_getElem?_getD, List.getElem?_eq_getElem hi]; rfl
  rw [← e]
  exact (h2 i (by omega)).keep (SameOn.refl _ _ _) (by omega) (Nat.le_refl _)

theorem run_quo {a c b : Nat} (h : Ieee.double.div a c = some b) (W : World) : (binOp BinOp.quo 70 (.float .f64 a) (.float .f64 c)).run Tryz.prog W = .ok (.float .f64 b) W := by
  have e : FloatKind.f64.format = Ieee.double := rfl
  simp [binOp, Op.floatArith, e, h]

set_option maxRecDepth 100000 in
set_option maxHeartbeats 4000000 in
theorem toGo_any (n : Nat) : ∀ (j : JV) (x : VC) (B : Nat) (w : World), SizeOf.sizeOf j < n → VRep w B x j → B ≤ w.heap.size → Right j → Calls Tryz.prog 27 #[x.val] w (RG w j) := by
  induction n with
  | zero => intro j x B w h; omega
  | succ n ih =>
    intro j x B w hn hrep hB hr
    obtain ⟨x, ls, ks, vs, L, V, hn1, hn2, hn3, hb1, hb2, hb3, _, _, _, _, _, _, ht, hk, hh, hs, r1, r2, r3, h1, h3⟩ := hrep
    obtain ⟨_, _, _, _, _, _, k0, k6, z1, z2, z3, z4, z5, b1, b2, b3, st, sl, sv, sk, ord, rr1, rr3⟩ := hr
    have hbx : Below w.heap.size w (boxV w x) := (Below.refl _ _).alloc (Nat.le_refl _) _
    have hl : Calls Tryz.prog 58 #[.slice x.la ls.length x.lc] (boxV w x) (RL (boxV w x) ls) := listToGo_walk ls x.la x.lc L B (boxV w x) (by simp; omega) sl (by rw [← hn1]; exact r1.keep (hbx.mono hB) (Nat.le_refl _)) (fun k wr hk hb => by
      have e : ls.getD k dfl = ls[k]'(by omega) := by rw [List.getD_eq_getElem?_getD, List.getElem?_eq_getElem (by omega)]; rfl
      have hbw : Below w.heap.size w wr := hbx.trans (hb.mono (by simp))
      rw [e]
      exact ih (ls[k]'(by omega)) (L k) B wr (by have := JV.lt_list (k := x.kind) (h := x.half) (t := x.text) (ls := ls) (ks := ks) (vs := vs) (i := k) (by omega); omega) ((h1 k (by omega)).keep (hbw.mono hB) (Nat.le_refl _)) (Nat.le_trans hB hbw.size) (rr1 _ (List.getElem_mem _)))
    have hm : Calls Tryz.prog 59 #[x.val] (boxV w x) (RM (boxV w x) ks vs) := mapToGo_walk ks vs x V B (boxV w x) (by simp; omega) (by omega) hn2 (by omega) (r2.keep (hbx.mono hB) (Nat.le_refl _)) (r3.keep (hbx.mono hB) (Nat.le_refl _)) ord (fun k wr hk hb => by
      have e : vs.getD k dfl = vs[k]'(by omega) := by rw [List.getD_eq_getElem?_getD, List.getElem?_eq_getElem (by omega)]; rfl
      have hbw : Below w.heap.size w wr := hbx.trans (hb.mono (by simp))
      rw [e]
      exact ih (vs[k]'(by omega)) (V k) B wr (by have := JV.lt_vals (k := x.kind) (h := x.half) (t := x.text) (ls := ls) (ks := ks) (vs := vs) (i := k) (by omega); omega) ((h3 k (by omega)).keep (hbw.mono hB) (Nat.le_refl _)) (Nat.le_trans hB hbw.size) (rr3 _ (List.getElem_mem _)))
    have nil_of : ∀ l : List JV, ([] : List ByteArray).length = l.length → l = [] := fun l h => by cases l <;> simp_all
    have HP : Hid (∀ (v : Value) (g : JV) (w' : World), GRep w' w.heap.size w'.heap.size v g → g = JV.mk x.kind x.half x.text ls ks vs → Below w.heap.size w w' → RG w (JV.mk x.kind x.half x.text ls ks vs) (.returned (.tuple #[v, .bool true])) w') := fun v g w' h e hb => ⟨v, rfl, e ▸ h, hb⟩
    have HJ : Hid ((x.kind ≠ 3 → x.half = 0) ∧ (x.kind ≠ 4 → x.text = ByteArray.empty) ∧ (x.kind ≠ 5 → ls = []) ∧ (x.kind ≠ 6 → ks = []) ∧ (x.kind ≠ 6 → vs = [])) :=
      ⟨fun h => z1.resolve_left h, fun h => empty_of_size (z2.resolve_left h), fun h => z3.resolve_left h, fun h => z4.resolve_left h, fun h => by have := z4.resolve_left h; subst this; exact nil_of _ z5⟩
    have HF : Hid (∀ w', Filled w' (w.heap.size + 1) ls.length ls.length ls → w.heap.size + 1 < w'.heap.size → GRep w' w.heap.size w'.heap.size (.iface 71 (.slice (some ⟨w.heap.size + 1, 0, none⟩) ls.length ls.length)) ⟨5, 0, ByteArray.empty, ls, [], []⟩) :=
      fun w' h hlt => (h.row rfl hlt sl).keep (SameOn.refl _ _ _) (by omega) (Nat.le_refl _)
    have HM : Hid (∀ w', MFilled w' (w.heap.size + 2) ks.length ks vs → w.heap.size + 2 < w'.heap.size → GRep w' w.heap.size w'.heap.size (.iface 74 (.map (some (w.heap.size + 2)))) ⟨6, 0, ByteArray.empty, [], ks, vs⟩) :=
      fun w' h hlt => (h.rep rfl z5 hlt (by omega) ord sk).keep (SameOn.refl _ _ _) (by omega) (Nat.le_refl _)
    obtain ⟨POST, hP⟩ : ∃ P, RG w (JV.mk x.kind x.half x.text ls ks vs) = P := ⟨_, rfl⟩
    rw [hP] at HP ⊢
    have HB3 := Lib.hid b3
    clear hP ih h1 h3 rr1 rr3 r1 r2 r3 ord sk hs z1 z2 z3 z4 z5 nil_of b3 hn
    rw [← hn1] at hl HF
    rw [← hn2] at HM
    have HN := Lib.hid hn1; have HN2 := Lib.hid hn2
    clear hn1 hn2 hn3
    obtain ⟨k1, f1, t1, la, ln, lc, ka, kn, kc, va, vn, vc⟩ := x
    simp only at *
    have hcs : k1 = 0 ∨ k1 = 1 ∨ k1 = 2 ∨ k1 = 3 ∨ k1 = 4 ∨ k1 = 5 ∨ k1 = 6 := by omega
    rcases hcs with rfl | rfl | rfl | rfl | rfl | rfl | rfl
    · clear hl hm HF HM
      have G := Lib.hid (show JV.mk 0 0 ByteArray.empty [] [] [] = JV.mk 0 f1 t1 ls ks vs by obtain ⟨a, b, c, d, e⟩ := HJ.out; rw [a (by decide), b (by decide), c (by decide), d (by decide), e (by decide)])
      clear HJ
      go_enter Tryz.func27, Tryz.ntmps27
      go_wp2_with fail
      exact HP.out _ _ _ .null G.out hbx
    · clear hl hm HF HM
      have G := Lib.hid (show JV.mk 1 0 ByteArray.empty [] [] [] = JV.mk 1 f1 t1 ls ks vs by obtain ⟨a, b, c, d, e⟩ := HJ.out; rw [a (by decide), b (by decide), c (by decide), d (by decide), e (by decide)])
      clear HJ
      go_enter Tryz.func27, Tryz.ntmps27
      go_wp2_with fail
      exact HP.out _ _ _ .fls G.out hbx
    · clear hl hm HF HM
      have G := Lib.hid (show JV.mk 2 0 ByteArray.empty [] [] [] = JV.mk 2 f1 t1 ls ks vs by obtain ⟨a, b, c, d, e⟩ := HJ.out; rw [a (by decide), b (by decide), c (by decide), d (by decide), e (by decide)])
      clear HJ
      go_enter Tryz.func27, Tryz.ntmps27
      go_wp2_with fail
      exact HP.out _ _ _ .tru G.out hbx
    · clear hl hm HF HM
      have G := Lib.hid (show JV.mk 3 f1 ByteArray.empty [] [] [] = JV.mk 3 f1 t1 ls ks vs by obtain ⟨a, b, c, d, e⟩ := HJ.out; rw [b (by decide), c (by decide), d (by decide), e (by decide)])
      clear HJ
      have HB3' := HB3.out
      by_cases hev : f1 % 2 = 0
      · obtain ⟨m, rfl⟩ : ∃ m, f1 = 2 * m := ⟨f1 / 2, by omega⟩
        have e1 : ((2 * m).tmod 2 == 0) = true := by rw [Int.mul_tmod_right]; rfl
        have e2 : (2 * m).tdiv 2 = m := Int.mul_tdiv_cancel_left _ (by decide)
        have e3 : wrap64 ((2 * m).tdiv 2) = m := by rw [e2]; unfold wrap64; omega
        have Gi := Lib.hid (fun w' : World => GRep.int (w := w') (lo := w.heap.size) (hi := w'.heap.size) m (by omega) (by omega))
        clear e2 hev HB3'
        go_enter Tryz.func27, Tryz.ntmps27
        go_wp2_with fail
        exact HP.out _ _ _ (Gi.out _) G.out hbx
      · obtain ⟨b, hb, hh⟩ := isHalf_div f1 (by omega) (by omega) (by omega)
        have e1 : (f1.tmod 2 == 0) = false := by
          rw [Bool.eq_false_iff]; intro h; exact hev (tmod2 (by simpa using h))
        have Gi := Lib.hid (fun w' : World => GRep.flt (w := w') (lo := w.heap.size) (hi := w'.heap.size) f1 b hh (by omega))
        have hq := run_quo (show Ieee.double.div (floatOfInt .f64 f1) 4611686018427387904 = some b from hb)
        clear hev HB3' hh hb
        go_enter Tryz.func27, Tryz.ntmps27
        go_wp2_with fail
        exact HP.out _ _ _ (Gi.out _) G.out hbx
    · clear hl hm HF HM
      have G := Lib.hid (show JV.mk 4 0 t1 [] [] [] = JV.mk 4 f1 t1 ls ks vs by obtain ⟨a, b, c, d, e⟩ := HJ.out; rw [a (by decide), c (by decide), d (by decide), e (by decide)])
      clear HJ
      go_enter Tryz.func27, Tryz.ntmps27
      go_wp2_with fail
      exact HP.out _ _ _ (.text _ st) G.out hbx
    · clear hm HM
      have G := Lib.hid (show JV.mk 5 0 ByteArray.empty ls [] [] = JV.mk 5 f1 t1 ls ks vs by obtain ⟨a, b, c, d, e⟩ := HJ.out; rw [a (by decide), b (by decide), d (by decide), e (by decide)])
      clear HJ
      go_enter Tryz.func27, Tryz.ntmps27
      go_wp2_with fail
      refine hl.mono ?_
      rintro e w7 ⟨n7, hn7, rfl, hf7, hb7⟩
      have hs7 : w.heap.size + 1 < w7.heap.size := by
        obtain ⟨arr, ha, _⟩ := hf7
        have := (Array.getElem?_eq_some_iff.1 ha).1
        simpa using this
      have HX := Lib.hid (And.intro hn7 (And.intro hf7 hb7))
      clear hn7 hf7 hb7 hl
      go_wp2_with fail
      obtain ⟨e7, hf7, hb7⟩ := HX.out
      have e8 : n7 = ln := e7.trans HN.out.symm
      subst e8
      exact HP.out _ _ _ (HF.out _ (by simpa using hf7) hs7) G.out (hbx.trans (hb7.mono (by simp)))
    · clear hl HF
      have G := Lib.hid (show JV.mk 6 0 ByteArray.empty [] ks vs = JV.mk 6 f1 t1 ls ks vs by obtain ⟨a, b, c, d, e⟩ := HJ.out; rw [a (by decide), b (by decide), c (by decide)])
      clear HJ
      go_enter Tryz.func27, Tryz.ntmps27
      go_wp2_with fail
      refine hm.mono ?_
      rintro e w7 ⟨n7, hn7, rfl, hf7, hs7, hb7⟩
      have HX := Lib.hid (And.intro hn7 (And.intro hf7 hb7))
      clear hn7 hf7 hb7 hm
      go_wp2_with fail
      obtain ⟨e7, hf7, hb7⟩ := HX.out
      have e8 : n7 = kn := e7.trans HN2.out.symm
      subst e8
      exact HP.out _ _ _ (HM.out _ (by simpa using hf7) (by simpa using hs7)) G.out (hbx.trans (hb7.mono (by simp)))
end Go.Proofs.YtaockngppbeanaaGreatDoor
