/- The row of laws.FnIndices: for every input the call returns true, and each argument reads behind it as it read before. Condition: the listed tables of the library lie as its text lays them. -/
import Derived.Test.YtaockngppbeanaaGreatDoorLift
namespace Go.Proofs.YtaockngppbeanaaGreatDoor
open Go Go.RowKit Go.Shelf Go.ChangeShapes Go.WideShapes Go.ChangeAt

set_option maxRecDepth 100000 in
set_option maxHeartbeats 40000000 in
theorem closed3 : joinedFacts Tryz.pinned.checked.prog 3 Tryz.f3 Rows.fnIndicesSpec Rows.fnIndicesRow = true := by
  unfold joinedFacts
  with_reducible repeat' (refine Bool.and_eq_true_iff.2 ⟨?_, ?_⟩)
  all_goals (as_aux_lemma => kernel_rfl)
theorem named3 : Tryz.pinned.checked.prog.funcNamed Rows.fnIndicesRow.func = some 3 := by kernel_rfl
theorem inst3 : Tryz.f3.isInstance Tryz.pinned.checked.prog Rows.fnIndicesRow.origin Rows.fnIndicesRow.targs := of_decide_eq_true (by kernel_rfl)
set_option maxHeartbeats 4000000 in
theorem wrap3 : Tryz.f3.isWrapper Tryz.pinned.checked.prog Rows.fnIndicesRow.wrapper Rows.fnIndicesRow.mainSum := by
  unfold Func.isWrapper
  first | (rw [if_pos (by decide +kernel)]; kernel_rfl) | (rw [if_neg (by decide +kernel)]; exact ⟨rfl, rfl⟩)

theorem fnIndices_holds : Rows.FnIndicesSaid :=
  OpenClaim.holds_of_wide 3 Tryz.f3 rfl rfl rfl rfl rfl rfl rfl ⟨rfl, rfl, rfl, rfl, rfl⟩ rfl rfl rfl rfl rfl named3 Tryz.func3 closed3 inst3 wrap3
    (fun os started H enc _ => lifted os started H enc)
#print axioms fnIndices_holds
end Go.Proofs.YtaockngppbeanaaGreatDoor
