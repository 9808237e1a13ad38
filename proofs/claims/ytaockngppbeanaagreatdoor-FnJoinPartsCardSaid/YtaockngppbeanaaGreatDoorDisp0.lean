/- gojq's binopTypeSwitch, called by Compare, at every pair of kinds: 0 where the values are the same. (Written by gen_disp.py, a program of the prover's.) -/
import Derived.Test.YtaockngppbeanaaGreatDoorLeaf
namespace Go.Proofs.YtaockngppbeanaaGreatDoor
open Go.RowKit
abbrev fv (k : Nat) : Value := .func (.func k) #[] #[]
set_option maxRecDepth 100000 in
set_option maxHeartbeats 1000000 in
theorem fallback2 (v1 v2 : Value) (k1 k2 : Int) (c1 : ∀ w, Calls Tryz.prog 152 #[v1] w fun e w' => e = .returned (.int .i64 k1) ∧ w = w') (c2 : ∀ w, Calls Tryz.prog 152 #[v2] w fun e w' => e = .returned (.int .i64 k2) ∧ w = w') (w : World) :
    Calls Tryz.prog 151 #[v1, v2] w (QI w fun r => (r = 0 ↔ k1 = k2)) := by
  go_enter Tryz.func151, Tryz.ntmps151
  go_wp2_with fail
  refine (c1 _).mono ?_
  rintro e w' ⟨rfl, rfl⟩
  go_wp2_with fail
  refine (c2 _).mono ?_
  rintro e w' ⟨rfl, rfl⟩
  go_wp2_with fail
  refine (compare_int _ _ _).mono ?_
  rintro e w' ⟨c, rfl, hc, rfl⟩
  go_wp2_with fail
  go_ret
  exact ⟨_, rfl, hc, rfl⟩
end Go.Proofs.YtaockngppbeanaaGreatDoor
