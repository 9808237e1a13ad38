/- spec.Array. -/
import Derived.Test.YtaockngppbeanaaGreatDoorWhere0
namespace Go.Proofs.YtaockngppbeanaaGreatDoor
open Go.RowKit
set_option maxRecDepth 100000 in
set_option maxHeartbeats 4000000 in
theorem array_any (a : Option Addr) (n c : Nat) (w : World) : Calls Tryz.prog 21 #[.slice a n c] w fun e w' => e = .returned (listC a n c).val ∧ Below w.heap.size w w' := by
  go_enter Tryz.func21, Tryz.ntmps21
  go_wp2_with fail
  refine bodyPost_ret (v := (listC a n c).val) ?_ rfl ⟨rfl, (Below.refl _ _).alloc (Nat.le_refl _) _⟩
  exact results_cell_row rfl _ _ w.heap.size 26 _ (0, 0) _ rfl (heap_alloc_new _ _) Tryz.underlying26 rfl (by kernel_rfl)
end Go.Proofs.YtaockngppbeanaaGreatDoor
