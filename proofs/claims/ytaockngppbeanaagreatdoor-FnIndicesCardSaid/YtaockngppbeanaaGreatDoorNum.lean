/- spec.Num. -/
import Derived.Test.YtaockngppbeanaaGreatDoorPlainText
namespace Go.Proofs.YtaockngppbeanaaGreatDoor
open Go.RowKit

set_option maxRecDepth 100000 in
set_option maxHeartbeats 4000000 in
theorem num_any (k : Nat) (hk : k ≤ 4000) (w : World) : Calls Tryz.prog 33 #[.int .i64 k] w fun e w' => e = .returned (numC k).val ∧ Below w.heap.size w w' := by
  go_enter Tryz.func33, Tryz.ntmps33
  go_wp2_with fail
  refine bodyPost_ret (v := (numC k).val) ?_ rfl ⟨rfl, (Below.refl _ _).alloc (Nat.le_refl _) _⟩
  exact results_cell_row rfl _ _ w.heap.size 26 _ (0, 0) _ rfl (heap_alloc_new _ _) Tryz.underlying26 rfl (by kernel_rfl)
end Go.Proofs.YtaockngppbeanaaGreatDoor
