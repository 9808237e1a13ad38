/- spec.where, where it is silent of a null, and where it raises. -/
import Derived.Test.YtaockngppbeanaaGreatDoorNum
namespace Go.Proofs.YtaockngppbeanaaGreatDoor
open Go.RowKit

theorem pick_none {P : Nat → Prop} {k : Nat} : ∀ d, (∀ q, k ≤ q → q < k + d → ¬ P q) → pick P (k + d) = pick P k
  | 0, _ => rfl
  | d + 1, h => by
    rw [← Nat.add_assoc, pick_no (h _ (by omega) (by omega))]
    exact pick_none d (fun q h1 h2 => h q h1 (by omega))
theorem pick_next {P : Nat → Prop} {k m : Nat} (hk : k ≤ m) (h : ∀ q, k ≤ q → q < m → ¬ P q) (hm : P m) : pick P (m + 1) = pick P k ++ [m] := by
  rw [pick_yes hm]
  have := pick_none (P := P) (k := k) (m - k) (fun q h1 h2 => h q h1 (by omega))
  rw [Nat.add_sub_cancel' hk] at this
  rw [this]

/-- What spec.where answers. -/
def RWh (w : World) (N : Prop) (Q : List Nat → Prop) (e : Ending) (w' : World) : Prop :=
  ∃ (y : VC) (h : Int), e = .returned (.tuple #[y.val, .int .i64 h]) ∧ Below w.heap.size w w' ∧
    (h = 2 ∨ (h = 1 ∧ N) ∨ (h = 0 ∧ ∃ L a n c, Q L ∧ y = listC a n c ∧ n = L.length ∧ w'.ownsRow w.heap.size 26 6 (.slice a n c) n (numsC L)))
def zeroC : VC := { kind := 0, half := 0, text := ByteArray.empty, la := none, ln := 0, lc := 0, ka := none, kn := 0, kc := 0, va := none, vn := 0, vc := 0 }

set_option maxRecDepth 100000 in
set_option maxHeartbeats 4000000 in
theorem where_null (nm : ByteArray) (x y : VC) (N : Prop) (Q : List Nat → Prop) (h : y.kind = 0 ∨ x.kind = 0) (w : World) : Calls Tryz.prog 45 #[.string nm, x.val, y.val] w (RWh w N Q) := by
  obtain ⟨k1, f1, t1, la, ln, lc, ka, kn, kc, va, vn, vc⟩ := x
  obtain ⟨k2, f2, t2, la', ln', lc', ka', kn', kc', va', vn', vc'⟩ := y
  simp only at h
  by_cases h0 : k2 = 0
  · subst h0
    clear h
    go_enter Tryz.func45, Tryz.ntmps45
    go_wp2_with fail
    refine bodyPost_ret (v := .tuple #[zeroC.val, .int .i64 2]) ?_ rfl ⟨zeroC, 2, rfl, (((Below.refl _ _).alloc (Nat.le_refl _) _).alloc (by simp) _).alloc (by simp; omega) _, Or.inl rfl⟩
    rw [results_cell_tmp rfl]
    go_simp
    simp [zeroC]
    rfl
  · obtain rfl : k1 = 0 := by omega
    have hk : (k2 == 0) = false := by simpa using h0
    clear h h0
    go_enter Tryz.func45, Tryz.ntmps45
    go_wp2_with fail
    refine bodyPost_ret (v := .tuple #[zeroC.val, .int .i64 2]) ?_ rfl ⟨zeroC, 2, rfl, (((Below.refl _ _).alloc (Nat.le_refl _) _).alloc (by simp) _).alloc (by simp; omega) _, Or.inl rfl⟩
    rw [results_cell_tmp rfl]
    go_simp
    simp [zeroC]
    rfl

set_option maxRecDepth 100000 in
set_option maxHeartbeats 4000000 in
theorem where_raise (nm : ByteArray) (x y : VC) (N : Prop) (Q : List Nat → Prop) (hN : N) (hx : x.kind ≠ 0) (hy : y.kind ≠ 0) (h5 : x.kind ≠ 5) (h4 : x.kind ≠ 4 ∨ y.kind ≠ 4) (w : World) : Calls Tryz.prog 45 #[.string nm, x.val, y.val] w (RWh w N Q) := by
  obtain ⟨k1, f1, t1, la, ln, lc, ka, kn, kc, va, vn, vc⟩ := x
  obtain ⟨k2, f2, t2, la', ln', lc', ka', kn', kc', va', vn', vc'⟩ := y
  simp only at hx hy h5 h4
  have HNN := Lib.hid hN
  clear hN
  have b1 : (k1 == 0) = false := by simpa using hx
  have b2 : (k2 == 0) = false := by simpa using hy
  have b3 : (k1 == 5) = false := by simpa using h5
  by_cases h : k1 = 4
  · subst h
    have b4 : (k2 == 4) = false := by simpa using (h4.resolve_left (by simp))
    clear hx hy h5 h4
    go_enter Tryz.func45, Tryz.ntmps45
    go_wp2_with fail
    refine bodyPost_ret (v := .tuple #[zeroC.val, .int .i64 1]) ?_ rfl ⟨zeroC, 1, rfl, (((Below.refl _ _).alloc (Nat.le_refl _) _).alloc (by simp) _).alloc (by simp; omega) _, Or.inr (Or.inl ⟨rfl, HNN.out⟩)⟩
    rw [results_cell_tmp rfl]
    go_simp
    simp [zeroC]
    rfl
  · have b4 : (k1 == 4) = false := by simpa using h
    clear hx hy h5 h4 h
    go_enter Tryz.func45, Tryz.ntmps45
    go_wp2_with fail
    refine bodyPost_ret (v := .tuple #[zeroC.val, .int .i64 1]) ?_ rfl ⟨zeroC, 1, rfl, (((Below.refl _ _).alloc (Nat.le_refl _) _).alloc (by simp) _).alloc (by simp; omega) _, Or.inr (Or.inl ⟨rfl, HNN.out⟩)⟩
    rw [results_cell_tmp rfl]
    go_simp
    simp [zeroC]
    rfl
end Go.Proofs.YtaockngppbeanaaGreatDoor
