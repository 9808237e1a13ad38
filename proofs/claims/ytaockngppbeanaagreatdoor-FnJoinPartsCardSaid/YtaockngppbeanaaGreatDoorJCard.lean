/- The row and the tied card of laws.FnJoinParts: for every input the call returns true, and each argument reads behind it as it read before. Condition: the listed tables of the library lie as its text lays them (tied). -/
import Derived.Test.YtaockngppbeanaaGreatDoorJLift
import Derived.Test.YtaockngppbeanaaGreatDoorCards
import Derived.Test.YtaockngppbeanaaGreatDoorTie
import Derived.SevenTiedAt
namespace Go.Proofs.YtaockngppbeanaaGreatDoor
open Go Go.RowKit Go.Shelf Go.ChangeShapes Go.WideShapes Go.ChangeAt

set_option maxRecDepth 100000 in
set_option maxHeartbeats 40000000 in
theorem closed4 : joinedFacts Tryz.pinned.checked.prog 4 Tryz.f4 Rows.fnJoinPartsSpec Rows.fnJoinPartsRow = true := by
  unfold joinedFacts
  with_reducible repeat' (refine Bool.and_eq_true_iff.2 ⟨?_, ?_⟩)
  all_goals (as_aux_lemma => kernel_rfl)
theorem named4 : Tryz.pinned.checked.prog.funcNamed Rows.fnJoinPartsRow.func = some 4 := by kernel_rfl
theorem inst4 : Tryz.f4.isInstance Tryz.pinned.checked.prog Rows.fnJoinPartsRow.origin Rows.fnJoinPartsRow.targs := of_decide_eq_true (by kernel_rfl)
set_option maxHeartbeats 4000000 in
theorem wrap4 : Tryz.f4.isWrapper Tryz.pinned.checked.prog Rows.fnJoinPartsRow.wrapper Rows.fnJoinPartsRow.mainSum := by
  unfold Func.isWrapper
  first | (rw [if_pos (by decide +kernel)]; kernel_rfl) | (rw [if_neg (by decide +kernel)]; exact ⟨rfl, rfl⟩)

theorem fnJoinParts_holds : Rows.FnJoinPartsSaid :=
  OpenClaim.holds_of_wide 4 Tryz.f4 rfl rfl rfl rfl rfl rfl rfl ⟨rfl, rfl, rfl, rfl, rfl⟩ rfl rfl rfl rfl rfl named4 Tryz.func4 closed4 inst4 wrap4
    (fun os started H enc _ => lifted4 os started H enc)
#print axioms fnJoinParts_holds
end Go.Proofs.YtaockngppbeanaaGreatDoor

namespace Go.Proofs.YtaockngppbeanaaGreatDoor
open Go Go.RowKit Go.Shelf Go.ChangeShapes Go.WideShapes Go.ChangeAt

theorem wfText4 : Rows.fnJoinPartsRow.wfByText (OpenSpec.ofChange Rows.fnJoinPartsSpec) = true := by kernel_rfl
theorem main4 : Tryz.pinned.checked.prog.mainIs = some (true, "34576ace1abf9279c66bb0c830340af08c00465d8ed9cfcec34cc98ff62a59c8".toList) := by kernel_rfl
theorem looks4 : true = Tryz.pinned.checked.prog.looks [] := by kernel_rfl
theorem stand4 : ([24, 24, 9].all fun u => !Tryz.prog.wantsStandIn u) = true := by kernel_rfl
theorem goes4 : false = Rows.fnJoinPartsRow.goesBy Tryz.pinned.checked.prog := by kernel_rfl

theorem fnJoinParts_card : Rows.FnJoinPartsCardSaid :=
  Claim7.holds_tied_plain_at .later [] [.data, .data, .widerDeep, .widerDeep, .data, .data, .data, .data, .data, .data, .sentinel, .sentinel, .pinned, .pinned, .pinned] true (true, "34576ace1abf9279c66bb0c830340af08c00465d8ed9cfcec34cc98ff62a59c8") true
    fnJoinParts_holds (fun _ h => by cases h) wfText4 (fun _ h => by cases h) fnJoinParts_row_tie rfl ⟨rfl, rfl⟩ main4 rfl
    (fun f fn hf hfn => by
      obtain rfl : f = 4 := Option.some.inj (named4.symm.trans hf) |>.symm
      obtain rfl : fn = Tryz.f4 := (Option.some.inj (Tryz.func4.symm.trans hfn)).symm
      exact ⟨looks4, fun j t ht => by
        rw [Tryz.params4] at ht
        have hm : t ∈ [24, 24, 9] := by simpa using Array.mem_of_getElem? ht
        exact (show Tryz.prog.wantsStandIn t = false by simpa using List.all_eq_true.1 stand4 t hm)⟩)
    goes4
#print axioms fnJoinParts_card
end Go.Proofs.YtaockngppbeanaaGreatDoor
