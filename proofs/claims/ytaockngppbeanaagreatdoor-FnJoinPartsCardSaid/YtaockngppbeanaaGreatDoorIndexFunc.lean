/- gojq.indexFunc at each pair of kinds. -/
import Derived.Test.YtaockngppbeanaaGreatDoorIndices
import Derived.Test.YtaockngppbeanaaGreatDoorAsserts
namespace Go.Proofs.YtaockngppbeanaaGreatDoor
open Go.RowKit

theorem ownsRow_base {w : World} {base b2 e size n : Nat} {v : Value} {xs : List Value} (h : w.ownsRow base e size v n xs) (hb : b2 ≤ base) : w.ownsRow b2 e size v n xs := by
  obtain ⟨h1, h2 | ⟨g, cap, cur, e1, e2, e3⟩⟩ := h
  · exact ⟨h1, Or.inl h2⟩
  · exact ⟨h1, Or.inr ⟨g, cap, cur, e1, Nat.le_trans hb e2, e3⟩⟩

theorem RIdx.from {w w1 : World} {L : List Nat} (hb : Below w.heap.size w w1) {e : Ending} {w' : World} (h : RIdx w1 L e w') : RIdx w L e w' := by
  obtain ⟨a, c, n, h1, h2, h3, h4⟩ := h
  exact ⟨a, c, n, h1, h2, ownsRow_base h3 hb.size, hb.trans (h4.mono hb.size)⟩

/-- An error. -/
def RErr (w : World) (e : Ending) (w' : World) : Prop := ∃ p, e = .returned (.iface 120 (.pointer p)) ∧ Below w.heap.size w w'

set_option maxRecDepth 100000 in
set_option maxHeartbeats 1000000 in
theorem idx_list_list (nm : ByteArray) (a1 a2 : Option Addr) (n1 c1 n2 c2 : Nat) (L : List Nat) (w : World) (h : Calls Tryz.prog 103 #[.slice a1 n1 c1, .slice a2 n2 c2] w (RIdx w L)) :
    Calls Tryz.prog 102 #[.string nm, .iface 71 (.slice a1 n1 c1), .iface 71 (.slice a2 n2 c2), fv 103] w (RIdx w L) := by
  go_enter Tryz.func102, Tryz.ntmps102
  go_wp2_with (first | (go_at_call 103; refine h.mono ?_; rintro e w3 ⟨a, c, n, hn, rfl, ho, hb⟩; have HN := Lib.hid hn; clear hn) | fail)
  go_ret
  exact ⟨a, c, n, HN.out, rfl, ho, hb⟩

set_option maxRecDepth 100000 in
set_option maxHeartbeats 1000000 in
theorem idx_list_one (nm : ByteArray) (a1 : Option Addr) (n1 c1 : Nat) (t : TypeId) (x : Value) (ht : (t = 4 ∧ ∃ b, x = .bool b) ∨ (t = 3 ∧ ∃ n, x = .int .i64 n) ∨ (t = 70 ∧ ∃ n, x = .float .f64 n) ∨ (t = 9 ∧ ∃ s, x = .string s) ∨ (t = 74 ∧ ∃ r, x = .map r)) (L : List Nat) (w : World)
    (h : Calls Tryz.prog 103 #[.slice a1 n1 c1, .slice (some ⟨w.heap.size, 0, none⟩) 1 1] (w.alloc (.cells #[.iface t x] 20)) (RIdx (w.alloc (.cells #[.iface t x] 20)) L)) :
    Calls Tryz.prog 102 #[.string nm, .iface 71 (.slice a1 n1 c1), .iface t x, fv 103] w (RIdx w L) := by
  have hb0 : Below w.heap.size w (w.alloc (.cells #[.iface t x] 20)) := (Below.refl _ w).alloc (Nat.le_refl _) _
  have hR : Hid (∀ e w', RIdx (w.alloc (.cells #[.iface t x] 20)) L e w' → RIdx w L e w') := Lib.hid (fun e w' h => h.from hb0)
  clear hb0
  obtain ⟨POST, hP⟩ : ∃ P, RIdx w L = P := ⟨_, rfl⟩
  rw [hP] at hR ⊢
  clear hP
  rcases ht with ⟨rfl, b, rfl⟩ | ⟨rfl, b, rfl⟩ | ⟨rfl, b, rfl⟩ | ⟨rfl, b, rfl⟩ | ⟨rfl, b, rfl⟩
  all_goals
    go_enter Tryz.func102, Tryz.ntmps102
    go_wp2_with fail
    refine h.mono ?_
    rintro e w3 ⟨a, c, n, hn, rfl, ho, hb⟩
    have HN := Lib.hid hn
    clear hn
    go_wp2_with fail
    exact hR.out _ _ ⟨a, c, n, HN.out, rfl, ho, hb⟩

set_option maxRecDepth 100000 in
set_option maxHeartbeats 1000000 in
theorem idx_text_text (nm s t : ByteArray) (hs : s.size ≤ 2000) (ht : t.size ≤ 2000) (L : List Nat) (w : World)
    (h : ∀ (b1 b2 n1 n2 : Nat) (w1 : World) (lo hi lo' hi' : Nat), n1 = (runesOf s).length → n2 = (runesOf t).length → hi ≤ w1.heap.size → hi' ≤ w1.heap.size → Row w1 lo hi (some ⟨b1, 0, none⟩) n1 (fun i => iv ((runesOf s).getD i 0)) → Row w1 lo' hi' (some ⟨b2, 0, none⟩) n2 (fun i => iv ((runesOf t).getD i 0)) →
      Calls Tryz.prog 103 #[.slice (some ⟨b1, 0, none⟩) n1 n1, .slice (some ⟨b2, 0, none⟩) n2 n2] w1 (RIdx w1 L)) :
    Calls Tryz.prog 102 #[.string nm, .iface 9 (.string s), .iface 9 (.string t), fv 103] w (RIdx w L) := by
  have hR : Hid (∀ w1 e w', Below w.heap.size w w1 → RIdx w1 L e w' → RIdx w L e w') := Lib.hid (fun w1 e w' hb h => h.from hb)
  obtain ⟨POST, hP⟩ : ∃ P, RIdx w L = P := ⟨_, rfl⟩
  rw [hP] at hR ⊢
  clear hP
  go_enter Tryz.func102, Tryz.ntmps102
  go_wp2_with fail
  refine (explode_any s hs _).mono ?_
  rintro e w1 ⟨b1, n1, hn1, rfl, hr1, hb1⟩
  have HN1 := Lib.hid hn1
  clear hn1
  go_wp2_with fail
  refine (explode_any t ht _).mono ?_
  rintro e w2 ⟨b2, n2, hn2, rfl, hr2, hb2⟩
  have HN2 := Lib.hid hn2
  clear hn2
  have hr1' := hr1.keep (.of_below hb2 (Nat.le_refl _)) (Nat.le_refl _) (Nat.le_refl _)
  have hbb := hb1.trans (hb2.mono hb1.size)
  have hc := h b1 b2 n1 n2 w2 _ _ _ _ HN1.out HN2.out hb2.size (Nat.le_refl _) hr1' hr2
  have HH := Lib.hid (And.intro hr1' hr2)
  clear hr1 hr2 hr1' h
  go_wp2_with fail
  refine hc.mono ?_
  rintro e w3 ⟨a, c, n, hn, rfl, ho, hb⟩
  have HN := Lib.hid hn
  clear hn
  go_wp2_with fail
  exact hR.out _ _ _ hbb ⟨a, c, n, HN.out, rfl, ho, hb⟩

set_option maxRecDepth 100000 in
set_option maxHeartbeats 4000000 in
theorem idx_err (nm : ByteArray) (t u : TypeId) (x y : Value) (ht : (t = 4 ∧ ∃ b, x = .bool b) ∨ (t = 3 ∧ ∃ n, x = .int .i64 n) ∨ (t = 70 ∧ ∃ n, x = .float .f64 n) ∨ (t = 74 ∧ ∃ r, x = .map r)) (w : World) :
    Calls Tryz.prog 102 #[.string nm, .iface t x, .iface u y, fv 103] w (RErr w) := by
  rcases ht with ⟨rfl, b, rfl⟩ | ⟨rfl, b, rfl⟩ | ⟨rfl, b, rfl⟩ | ⟨rfl, b, rfl⟩
  all_goals
    go_enter Tryz.func102, Tryz.ntmps102
    go_wp2_with fail
    go_ret
    exact ⟨_, rfl, (Below.refl _ _).alloc (Nat.le_refl _) _⟩

set_option maxRecDepth 100000 in
set_option maxHeartbeats 4000000 in
theorem idx_text_err (nm s : ByteArray) (t : TypeId) (x : Value) (ht : (t = 4 ∧ ∃ b, x = .bool b) ∨ (t = 3 ∧ ∃ n, x = .int .i64 n) ∨ (t = 70 ∧ ∃ n, x = .float .f64 n) ∨ (t = 71 ∧ ∃ a n c, x = .slice a n c) ∨ (t = 74 ∧ ∃ r, x = .map r)) (w : World) :
    Calls Tryz.prog 102 #[.string nm, .iface 9 (.string s), .iface t x, fv 103] w (RErr w) := by
  rcases ht with ⟨rfl, b, rfl⟩ | ⟨rfl, b, rfl⟩ | ⟨rfl, b, rfl⟩ | ⟨rfl, a, n, c, rfl⟩ | ⟨rfl, b, rfl⟩
  all_goals
    go_enter Tryz.func102, Tryz.ntmps102
    go_wp2_with fail
    go_ret
    exact ⟨_, rfl, (Below.refl _ _).alloc (Nat.le_refl _) _⟩
end Go.Proofs.YtaockngppbeanaaGreatDoor
