/- gojq compares numbers, strings and kinds: cmp.Compare at int and string, Compare at two floats that are halves, typeIndex, and what Compare falls back to. -/
import Derived.Test.YtaockngppbeanaaGreatDoorRep
import Derived.Test.YtaockngppbeanaaGreatDoorCmp
import Derived.Deep.QuietTactic
import Derived.BigQuiet
import Derived.Test.YtaockngppbeanaaGreatDoorAsserts
namespace Go.Proofs.YtaockngppbeanaaGreatDoor
open Go.RowKit
def QI (w : World) (p : Int → Prop) (e : Ending) (w' : World) : Prop := ∃ c, e = .returned (.int .i64 c) ∧ Hid (p c) ∧ w = w'
theorem QI.ri {w w' : World} {p : Int → Prop} {e : Ending} (h : QI w p e w') : RI w p e w' := by
  obtain ⟨c, a, b, rfl⟩ := h
  exact ⟨c, a, b, Below.refl _ _⟩

set_option maxHeartbeats 400000 in
theorem isNaN_int (c : Int) (w : World) : Calls Tryz.prog 183 #[.int .i64 c] w fun e w' => e = .returned (.bool false) ∧ w = w' := by
  go_enter Tryz.func183, Tryz.ntmps183
  go_wp2
  go_ret
  exact ⟨by simp, rfl⟩
set_option maxHeartbeats 400000 in
theorem isNaN_string (s : ByteArray) (w : World) : Calls Tryz.prog 186 #[.string s] w fun e w' => e = .returned (.bool false) ∧ w = w' := by
  go_enter Tryz.func186, Tryz.ntmps186
  go_wp2
  go_ret
  exact ⟨by simp, rfl⟩
set_option maxHeartbeats 800000 in
theorem compare_int (a b : Int) (w : World) : Calls Tryz.prog 143 #[.int .i64 a, .int .i64 b] w (QI w fun r => (r = 0 ↔ a = b)) := by
  rcases Int.lt_trichotomy a b with h | h | h
  · go_enter Tryz.func143, Tryz.ntmps143
    go_wp2_with (go_at_call 183; refine (isNaN_int _ _).mono ?_; rintro e w' ⟨rfl, rfl⟩)
    go_ret
    exact ⟨_, rfl, Lib.hid (by omega), rfl⟩
  · subst h
    go_enter Tryz.func143, Tryz.ntmps143
    go_wp2_with (go_at_call 183; refine (isNaN_int _ _).mono ?_; rintro e w' ⟨rfl, rfl⟩)
    go_ret
    exact ⟨_, rfl, Lib.hid (by simp), rfl⟩
  · have h2 : ¬ a < b := by omega
    go_enter Tryz.func143, Tryz.ntmps143
    go_wp2_with (go_at_call 183; refine (isNaN_int _ _).mono ?_; rintro e w' ⟨rfl, rfl⟩)
    go_ret
    exact ⟨_, rfl, Lib.hid (by omega), rfl⟩
set_option maxHeartbeats 800000 in
theorem compare_string (a b : ByteArray) (w : World) : Calls Tryz.prog 147 #[.string a, .string b] w (QI w fun r => (r = 0 ↔ a = b)) := by
  go_enter Tryz.func147, Tryz.ntmps147
  go_wp2_with (go_at_call 186; refine (isNaN_string _ _).mono ?_; rintro e w' ⟨rfl, rfl⟩)
  · have h : Op.bytesLess a.toList b.toList = true := by assumption
    go_ret; exact ⟨_, rfl, Lib.hid ⟨by omega, fun e => by subst e; simp [less_irrefl] at h⟩, rfl⟩
  · have h : (!a.toList == b.toList) = true := by assumption
    go_ret; exact ⟨_, rfl, Lib.hid ⟨by omega, fun e => by subst e; simp at h⟩, rfl⟩
  · have h : (!a.toList == b.toList) = false := by assumption
    go_ret; exact ⟨_, rfl, Lib.hid ⟨fun _ => toList_inj (by simpa using h), fun _ => rfl⟩, rfl⟩

theorem order_half {x y : Nat} {h1 h2 : Int} (a : IsHalf x h1) (b : IsHalf y h2) :
    (h1 < h2 ∧ FloatKind.f64.format.order x y = some .lt) ∨ (h1 = h2 ∧ FloatKind.f64.format.order x y = some .eq) ∨ (h2 < h1 ∧ FloatKind.f64.format.order x y = some .gt) := by
  have e : FloatKind.f64.format = Ieee.double := rfl
  rw [e, a.order b]
  rcases Int.lt_trichotomy h1 h2 with h | h | h
  · exact Or.inl ⟨h, by rw [Int.compare_eq_lt.2 h]⟩
  · exact Or.inr (Or.inl ⟨h, by rw [Int.compare_eq_eq.2 h]⟩)
  · exact Or.inr (Or.inr ⟨h, by rw [Int.compare_eq_gt.2 h]⟩)

set_option maxHeartbeats 800000 in
theorem isNaN_half (x : Nat) (h : Int) (hx : IsHalf x h) (w : World) : Calls Tryz.prog 184 #[.float .f64 x] w fun e w' => e = .returned (.bool false) ∧ w = w' := by
  have ho : FloatKind.f64.format.order x x = some .eq := by
    rcases order_half hx hx with ⟨a, _⟩ | ⟨_, b⟩ | ⟨a, _⟩
    · omega
    · exact b
    · omega
  clear hx
  go_enter Tryz.func184, Tryz.ntmps184
  go_wp2
  go_ret
  exact ⟨by simp, rfl⟩
set_option maxHeartbeats 800000 in
theorem lt_half (x y : Nat) (h1 h2 : Int) (hx : IsHalf x h1) (hy : IsHalf y h2) (w : World) : Calls Tryz.prog 145 #[.float .f64 x, .float .f64 y] w fun e w' => e = .returned (.bool (decide (h1 < h2))) ∧ w = w' := by
  have hn := isNaN_half x h1 hx
  rcases order_half hx hy with ⟨a, ho⟩ | ⟨a, ho⟩ | ⟨a, ho⟩
  all_goals clear hx hy
  · have hd : decide (h1 < h2) = true := decide_eq_true a
    rw [hd]
    go_enter Tryz.func145, Tryz.ntmps145
    go_wp2_with (go_at_call 184; refine (hn _).mono ?_; rintro e w' ⟨rfl, rfl⟩)
    go_ret
    exact ⟨by simp, rfl⟩
  · have hd : decide (h1 < h2) = false := decide_eq_false (by omega)
    rw [hd]
    go_enter Tryz.func145, Tryz.ntmps145
    go_wp2_with (go_at_call 184; refine (hn _).mono ?_; rintro e w' ⟨rfl, rfl⟩)
    go_ret
    exact ⟨by simp, rfl⟩
  · have hd : decide (h1 < h2) = false := decide_eq_false (by omega)
    rw [hd]
    go_enter Tryz.func145, Tryz.ntmps145
    go_wp2_with (go_at_call 184; refine (hn _).mono ?_; rintro e w' ⟨rfl, rfl⟩)
    go_ret
    exact ⟨by simp, rfl⟩
set_option maxHeartbeats 800000 in
theorem compare_half (x y : Nat) (h1 h2 : Int) (hx : IsHalf x h1) (hy : IsHalf y h2) (w : World) : Calls Tryz.prog 144 #[.float .f64 x, .float .f64 y] w (QI w fun r => (r = 0 ↔ h1 = h2)) := by
  have hl := lt_half x y h1 h2 hx hy
  rcases order_half hx hy with ⟨a, ho⟩ | ⟨a, ho⟩ | ⟨a, ho⟩
  all_goals clear hx hy
  · have hd : decide (h1 < h2) = true := decide_eq_true a
    simp only [hd] at hl
    have G : Hid (h1 < h2) := a
    clear a hd
    go_enter Tryz.func144, Tryz.ntmps144
    go_wp2_with (go_at_call 145; refine (hl _).mono ?_; rintro e w' ⟨rfl, rfl⟩)
    go_ret
    exact ⟨_, rfl, Lib.hid (by have := G.out; omega), rfl⟩
  · have hd : decide (h1 < h2) = false := decide_eq_false (by omega)
    simp only [hd] at hl
    have G : Hid (h1 = h2) := a
    clear a hd
    go_enter Tryz.func144, Tryz.ntmps144
    go_wp2_with (go_at_call 145; refine (hl _).mono ?_; rintro e w' ⟨rfl, rfl⟩)
    go_ret
    exact ⟨_, rfl, Lib.hid (by have := G.out; omega), rfl⟩
  · have hd : decide (h1 < h2) = false := decide_eq_false (by omega)
    simp only [hd] at hl
    have G : Hid (h2 < h1) := a
    clear a hd
    go_enter Tryz.func144, Tryz.ntmps144
    go_wp2_with (go_at_call 145; refine (hl _).mono ?_; rintro e w' ⟨rfl, rfl⟩)
    go_ret
    exact ⟨_, rfl, Lib.hid (by have := G.out; omega), rfl⟩

set_option maxRecDepth 100000 in
set_option maxHeartbeats 4000000 in
theorem typeIndex_any (v : Value) (j : JV) (W : World) (lo hi : Nat) (h : GRep W lo hi v j) (w : World) : Calls Tryz.prog 152 #[v] w fun e w' => e = .returned (.int .i64 j.kind) ∧ w = w' := by
  cases h
  all_goals (show Calls Tryz.prog 152 _ w fun e w' => e = .returned (.int .i64 _) ∧ w = w')
  all_goals go_enter Tryz.func152, Tryz.ntmps152
  all_goals go_wp2
  all_goals (go_ret; exact ⟨rfl, rfl⟩)
set_option maxRecDepth 100000 in
set_option maxHeartbeats 1000000 in
theorem fallback_any (v1 v2 : Value) (j1 j2 : JV) (W : World) (lo hi : Nat) (h1 : GRep W lo hi v1 j1) (h2 : GRep W lo hi v2 j2) (w : World) : Calls Tryz.prog 151 #[v1, v2] w (QI w fun r => (r = 0 ↔ j1.kind = j2.kind)) := by
  have c1 := typeIndex_any v1 j1 W lo hi h1
  have c2 := typeIndex_any v2 j2 W lo hi h2
  clear h1 h2
  go_enter Tryz.func151, Tryz.ntmps151
  go_wp2_with fail
  refine (c1 _).mono ?_
  rintro e w' ⟨rfl, rfl⟩
  go_wp2_with fail
  refine (c2 _).mono ?_
  rintro e w' ⟨rfl, rfl⟩
  go_wp2_with fail
  refine (compare_int _ _ _).mono ?_
  rintro e w' ⟨c, rfl, hc, rfl⟩
  go_wp2_with fail
  go_ret
  exact ⟨_, rfl, hc, rfl⟩
end Go.Proofs.YtaockngppbeanaaGreatDoor
