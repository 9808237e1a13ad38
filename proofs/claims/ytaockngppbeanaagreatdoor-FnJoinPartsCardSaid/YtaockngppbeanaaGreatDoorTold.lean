/- laws.told, of a refusal and of a value. -/
import Derived.Test.YtaockngppbeanaaGreatDoorNums
namespace Go.Proofs.YtaockngppbeanaaGreatDoor
open Go.RowKit

theorem Tidy.num (k : Nat) (hk : k ≤ 2000) : Tidy (numJ k) := (Right.num k hk).tidy
theorem Tidy.nums (L : List Nat) (hL : ∀ k ∈ L, k ≤ 2000) : Tidy (listJ L) :=
  .mk _ _ _ _ _ _ (by decide) (by decide) (Or.inr rfl) (Or.inr rfl) (Or.inl rfl) (Or.inr rfl) rfl (by decide) (by decide) (fun x h => by
    obtain ⟨k, hk, rfl⟩ := List.mem_map.1 h
    exact Tidy.num k (hL k hk)) (fun x h => by simp at h)

set_option maxRecDepth 100000 in
set_option maxHeartbeats 4000000 in
theorem told_err (c0 c1 : Int) (c2 : ByteArray) (c3 c4 c5 : Value) (y : VC) (w : World) (h3 : ∃ a n c, c3 = .slice a n c) (h4 : ∃ a n c, c4 = .slice a n c) (h5 : ∃ a n c, c5 = .slice a n c) :
    Calls Tryz.prog 8 #[.agg #[.int .i64 c0, .int .i64 c1, .string c2, c3, c4, c5, .int .i64 1], y.val, .int .i64 1] w (RB w fun r => r = true) := by
  obtain ⟨a3, n3, q3, rfl⟩ := h3
  obtain ⟨a4, n4, q4, rfl⟩ := h4
  obtain ⟨a5, n5, q5, rfl⟩ := h5
  go_enter Tryz.func8, Tryz.ntmps8
  go_wp2_with fail
  go_ret
  exact ⟨_, rfl, Lib.hid rfl, ((Below.refl _ _).alloc (Nat.le_refl _) _).alloc (by simp) _⟩

set_option maxRecDepth 100000 in
set_option maxHeartbeats 4000000 in
theorem told_fine (x y : VC) (j1 j2 : JV) (B : Nat) (w : World) (hx : VRep w B x j1) (hy : VRep w B y j2) (hB : B ≤ w.heap.size) (r1 : Tidy j1) (r2 : Tidy j2) (hj : j1 = j2) :
    Calls Tryz.prog 8 #[.agg #[.int .i64 x.kind, .int .i64 x.half, .string x.text, .slice x.la x.ln x.lc, .slice x.ka x.kn x.kc, .slice x.va x.vn x.vc, .int .i64 0], y.val, .int .i64 0] w (RB w fun r => r = true) := by
  have hs := fun (wr : World) (hb : Below w.heap.size w wr) => same_tidy j1 j2 x y B wr (hx.keep (hb.mono hB) (Nat.le_refl _)) (hy.keep (hb.mono hB) (Nat.le_refl _)) (by have := hb.size; omega) r1 r2
  clear hx hy r1 r2
  have HJ := Lib.hid hj
  clear hj
  have hb2 : ∀ o1 o2, Below w.heap.size w ((w.alloc o1).alloc o2) := fun o1 o2 => ((Below.refl _ _).alloc (Nat.le_refl _) _).alloc (by simp) _
  go_enter Tryz.func8, Tryz.ntmps8
  go_wp2_with fail
  refine (hs _ (hb2 _ _)).mono ?_
  rintro e w3 ⟨r, rfl, hr, hb⟩
  have hr1 : r = true := hr.out.2 HJ.out
  subst hr1
  go_wp2_with fail
  go_ret
  exact ⟨_, rfl, Lib.hid rfl, (hb2 _ _).trans (hb.mono (by simp; omega))⟩
end Go.Proofs.YtaockngppbeanaaGreatDoor
