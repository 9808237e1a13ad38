/- The tied card of laws.FnIndices: for every input the call returns true, and each argument reads behind it as it read before. Condition: the listed tables of the library lie as its text lays them (tied). -/
import Derived.Test.YtaockngppbeanaaGreatDoorHolds
import Derived.Test.YtaockngppbeanaaGreatDoorCards
import Derived.Test.YtaockngppbeanaaGreatDoorTie
import Derived.SevenTiedAt
namespace Go.Proofs.YtaockngppbeanaaGreatDoor
open Go Go.RowKit Go.Shelf Go.ChangeShapes Go.WideShapes Go.ChangeAt

theorem wfText3 : Rows.fnIndicesRow.wfByText (OpenSpec.ofChange Rows.fnIndicesSpec) = true := by kernel_rfl
theorem main3 : Tryz.pinned.checked.prog.mainIs = some (true, "34576ace1abf9279c66bb0c830340af08c00465d8ed9cfcec34cc98ff62a59c8".toList) := by kernel_rfl
theorem looks3 : true = Tryz.pinned.checked.prog.looks [] := by kernel_rfl
theorem stand3 : ([26, 26].all fun u => !Tryz.prog.wantsStandIn u) = true := by kernel_rfl
theorem goes3 : false = Rows.fnIndicesRow.goesBy Tryz.pinned.checked.prog := by kernel_rfl

theorem fnIndices_card : Rows.FnIndicesCardSaid :=
  Claim7.holds_tied_plain_at .later [] [.data, .data, .widerDeep, .widerDeep, .data, .data, .data, .data, .data, .data, .sentinel, .sentinel, .pinned, .pinned, .pinned] true (true, "34576ace1abf9279c66bb0c830340af08c00465d8ed9cfcec34cc98ff62a59c8") true
    fnIndices_holds (fun _ h => by cases h) wfText3 (fun _ h => by cases h) fnIndices_row_tie rfl ⟨rfl, rfl⟩ main3 rfl
    (fun f fn hf hfn => by
      obtain rfl : f = 3 := Option.some.inj (named3.symm.trans hf) |>.symm
      obtain rfl : fn = Tryz.f3 := (Option.some.inj (Tryz.func3.symm.trans hfn)).symm
      exact ⟨looks3, fun j t ht => by
        rw [Tryz.params3] at ht
        have hm : t ∈ [26, 26] := by simpa using Array.mem_of_getElem? ht
        exact (show Tryz.prog.wantsStandIn t = false by simpa using List.all_eq_true.1 stand3 t hm)⟩)
    goes3
#print axioms fnIndices_card
end Go.Proofs.YtaockngppbeanaaGreatDoor
