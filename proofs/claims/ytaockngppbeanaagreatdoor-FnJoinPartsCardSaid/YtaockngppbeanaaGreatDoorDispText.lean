/- gojq's binopTypeSwitch, called by Compare, at every pair of kinds: 0 where the values are the same. (Written by gen_disp.py, a program of the prover's.) -/
import Derived.Test.YtaockngppbeanaaGreatDoorDisp0
namespace Go.Proofs.YtaockngppbeanaaGreatDoor
open Go.RowKit
set_option maxRecDepth 100000 in
set_option maxHeartbeats 20000000 in
theorem disp_text (s : ByteArray) (r : Value) (b : JV) (W : World) (lo hi : Nat) (h2 : GRep W lo hi r b) (w : World) (c1 : ∀ w, Calls Tryz.prog 152 #[.iface 9 (.string s)] w fun e w' => e = .returned (.int .i64 4) ∧ w = w') :
    Calls Tryz.prog 142 #[.iface 9 (.string s), r, fv 143, fv 144, fv 146, fv 147, fv 148, fv 149, fv 151] w (RI w fun c => c = 0 ↔ JV.mk 4 0 s [] [] [] = b) := by
  have c2 := typeIndex_any r b W lo hi h2
  cases h2 with
  | null =>
    have hf := fallback2 _ _ _ _ c1 c2
    clear c1 c2
    obtain ⟨E, hE⟩ : ∃ E : Prop, E = (JV.mk 4 0 s [] [] [] = JV.mk 0 0 ByteArray.empty [] [] []) := ⟨_, rfl⟩
    rw [← hE]
    have HE := Lib.hid hE; clear hE
    go_enter Tryz.func142, Tryz.ntmps142
    go_wp2_with (first | (go_at_call 151; refine (hf _).mono ?_; rintro e w' ⟨c, rfl, hc, rfl⟩) | fail)
    go_ret
    exact ⟨_, rfl, Lib.hid (Iff.trans hc.out (by simp [HE.out, JV.kind])), Below.refl _ _⟩
  | fls =>
    have hf := fallback2 _ _ _ _ c1 c2
    clear c1 c2
    obtain ⟨E, hE⟩ : ∃ E : Prop, E = (JV.mk 4 0 s [] [] [] = JV.mk 1 0 ByteArray.empty [] [] []) := ⟨_, rfl⟩
    rw [← hE]
    have HE := Lib.hid hE; clear hE
    go_enter Tryz.func142, Tryz.ntmps142
    go_wp2_with (first | (go_at_call 151; refine (hf _).mono ?_; rintro e w' ⟨c, rfl, hc, rfl⟩) | fail)
    go_ret
    exact ⟨_, rfl, Lib.hid (Iff.trans hc.out (by simp [HE.out, JV.kind])), Below.refl _ _⟩
  | tru =>
    have hf := fallback2 _ _ _ _ c1 c2
    clear c1 c2
    obtain ⟨E, hE⟩ : ∃ E : Prop, E = (JV.mk 4 0 s [] [] [] = JV.mk 2 0 ByteArray.empty [] [] []) := ⟨_, rfl⟩
    rw [← hE]
    have HE := Lib.hid hE; clear hE
    go_enter Tryz.func142, Tryz.ntmps142
    go_wp2_with (first | (go_at_call 151; refine (hf _).mono ?_; rintro e w' ⟨c, rfl, hc, rfl⟩) | fail)
    go_ret
    exact ⟨_, rfl, Lib.hid (Iff.trans hc.out (by simp [HE.out, JV.kind])), Below.refl _ _⟩
  | int m hm1 hm2 =>
    have hf := fallback2 _ _ _ _ c1 c2
    clear c1 c2
    obtain ⟨E, hE⟩ : ∃ E : Prop, E = (JV.mk 4 0 s [] [] [] = JV.mk 3 (2 * m) ByteArray.empty [] [] []) := ⟨_, rfl⟩
    rw [← hE]
    have HE := Lib.hid hE; clear hE
    go_enter Tryz.func142, Tryz.ntmps142
    go_wp2_with (first | (go_at_call 151; refine (hf _).mono ?_; rintro e w' ⟨c, rfl, hc, rfl⟩) | fail)
    go_ret
    exact ⟨_, rfl, Lib.hid (Iff.trans hc.out (by simp [HE.out, JV.kind])), Below.refl _ _⟩
  | flt g b2 hb2 ho2 =>
    have hf := fallback2 _ _ _ _ c1 c2
    clear c1 c2
    obtain ⟨E, hE⟩ : ∃ E : Prop, E = (JV.mk 4 0 s [] [] [] = JV.mk 3 g ByteArray.empty [] [] []) := ⟨_, rfl⟩
    rw [← hE]
    have HE := Lib.hid hE; clear hE
    go_enter Tryz.func142, Tryz.ntmps142
    go_wp2_with (first | (go_at_call 151; refine (hf _).mono ?_; rintro e w' ⟨c, rfl, hc, rfl⟩) | fail)
    go_ret
    exact ⟨_, rfl, Lib.hid (Iff.trans hc.out (by simp [HE.out, JV.kind])), Below.refl _ _⟩
  | text t ht =>
    have hf := fallback2 _ _ _ _ c1 c2
    clear c1 c2 hf
    obtain ⟨E, hE⟩ : ∃ E : Prop, E = (JV.mk 4 0 s [] [] [] = JV.mk 4 0 t [] [] []) := ⟨_, rfl⟩
    rw [← hE]
    have HE := Lib.hid hE; clear hE
    go_enter Tryz.func142, Tryz.ntmps142
    go_wp2_with (first | (go_at_call 147; refine (compare_string _ _ _).mono ?_; rintro e w' ⟨c, rfl, hc, rfl⟩) | fail)
    go_ret
    exact ⟨_, rfl, Lib.hid (Iff.trans hc.out (by simp only [HE.out, JV.mk.injEq, true_and, and_true])), Below.refl _ _⟩
  | list a2 c2 C2 ls2 hl2 hc2 hr2 hg2 =>
    have hf := fallback2 _ _ _ _ c1 c2
    clear c1 c2
    obtain ⟨E, hE⟩ : ∃ E : Prop, E = (JV.mk 4 0 s [] [] [] = JV.mk 5 0 ByteArray.empty ls2 [] []) := ⟨_, rfl⟩
    rw [← hE]
    have HE := Lib.hid hE; clear hE
    go_enter Tryz.func142, Tryz.ntmps142
    go_wp2_with (first | (go_at_call 151; refine (hf _).mono ?_; rintro e w' ⟨c, rfl, hc, rfl⟩) | fail)
    go_ret
    exact ⟨_, rfl, Lib.hid (Iff.trans hc.out (by simp [HE.out, JV.kind])), Below.refl _ _⟩
  | map r2 ks2 vs2 V2 hlo hhi hmm hll h44 ord2 sk2 hg2 =>
    have hf := fallback2 _ _ _ _ c1 c2
    clear c1 c2
    obtain ⟨E, hE⟩ : ∃ E : Prop, E = (JV.mk 4 0 s [] [] [] = JV.mk 6 0 ByteArray.empty [] ks2 vs2) := ⟨_, rfl⟩
    rw [← hE]
    have HE := Lib.hid hE; clear hE
    go_enter Tryz.func142, Tryz.ntmps142
    go_wp2_with (first | (go_at_call 151; refine (hf _).mono ?_; rintro e w' ⟨c, rfl, hc, rfl⟩) | fail)
    go_ret
    exact ⟨_, rfl, Lib.hid (Iff.trans hc.out (by simp [HE.out, JV.kind])), Below.refl _ _⟩
end Go.Proofs.YtaockngppbeanaaGreatDoor
