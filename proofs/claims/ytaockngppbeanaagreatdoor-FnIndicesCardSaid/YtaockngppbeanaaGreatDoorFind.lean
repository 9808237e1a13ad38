/- spec.ascii and spec.find. -/
import Derived.Test.YtaockngppbeanaaGreatDoorTold
namespace Go.Proofs.YtaockngppbeanaaGreatDoor
open Go.RowKit

def Ascii (s : ByteArray) : Prop := ∀ i (h : i < s.size), (s[i]'h).toNat < 128

set_option maxRecDepth 100000 in
set_option maxHeartbeats 4000000 in
theorem ascii_any (s : ByteArray) (hs : s.size ≤ 2000) (w : World) : Calls Tryz.prog 86 #[.string s] w (RB w fun r => r = true → Ascii s) := by
  go_enter Tryz.func86, Tryz.ntmps86
  go_wp2_with fail
  go_loopw [3] (fun i wr => ∃ k : Nat, k ≤ s.size ∧ i = .int .i64 k ∧ wr = w ∧ ∀ q (h : q < s.size), q < k → (s[q]'h).toNat < 128) (fun i _ => s.size - (intOf i).toNat)
  case atStart => exact ⟨0, Nat.zero_le _, rfl, rfl, fun q h hq => by omega⟩
  case round =>
    obtain ⟨k, hk, rfl, rfl, hall⟩ := hrel
    have HA := Lib.hid hall
    clear hall
    by_cases hlt : k < s.size
    · by_cases hc : (128 : Int) ≤ ((s[k]'hlt).toNat : Int)
      · go_wp2_with fail
        go_ret
        exact ⟨_, rfl, Lib.hid (fun h => by simp at h), Below.refl _ _⟩
      · go_wp2_with fail
        go_roundw
        case rel => exact ⟨k + 1, by omega, by go_num, trivial, fun q h hq => by
          by_cases e : q = k
          · subst e; omega
          · exact HA.out q h (by omega)⟩
        case measure => simp [intOf]; omega
    · go_wp2_with fail
      go_ret
      exact ⟨_, rfl, Lib.hid (fun _ i h => HA.out i h (by omega)), Below.refl _ _⟩

/-- t stands in s at m. -/
def Stands (s t : ByteArray) (m : Nat) : Prop := m + t.size ≤ s.size ∧ s.extract m (m + t.size) = t
def QF (w : World) (s t : ByteArray) (k0 : Nat) (e : Ending) (w' : World) : Prop :=
  w = w' ∧ ∃ r : Int, e = .returned (.int .i64 r) ∧ Hid ((r = -1 ∧ ∀ m, k0 ≤ m → ¬ Stands s t m) ∨ ∃ m : Nat, r = m ∧ k0 ≤ m ∧ Stands s t m ∧ ∀ q, k0 ≤ q → q < m → ¬ Stands s t q)

set_option maxRecDepth 100000 in
set_option maxHeartbeats 4000000 in
theorem find_any (s t : ByteArray) (hs : s.size ≤ 2000) (ht : t.size ≤ 2000) (k0 : Nat) (hk0 : k0 ≤ 4000) (w : World) : Calls Tryz.prog 87 #[.string s, .string t, .int .i64 k0] w (QF w s t k0) := by
  go_enter Tryz.func87, Tryz.ntmps87
  go_wp2_with fail
  go_loopw [7] (fun i wr => ∃ k : Nat, k0 ≤ k ∧ k ≤ k0 + s.size + 1 ∧ i = .int .i64 k ∧ wr = w ∧ ∀ q, k0 ≤ q → q < k → ¬ Stands s t q) (fun i _ => k0 + s.size + 1 - (intOf i).toNat)
  case atStart => exact ⟨k0, Nat.le_refl _, by omega, rfl, rfl, fun q h1 h2 => by omega⟩
  case round =>
    obtain ⟨k, hk1, hk, rfl, rfl, hall⟩ := hrel
    have HA := Lib.hid hall
    clear hall
    by_cases hlt : k + t.size ≤ s.size
    · have hlt' : (k : Int) + (t.size : Int) ≤ (s.size : Int) := by omega
      by_cases hq : (s.extract k (k + t.size)).toList = t.toList
      · have hq' : ((s.extract k (k + t.size)).toList == t.toList) = true := by simpa using hq
        have HQ := Lib.hid hq
        clear hq
        go_wp2_with fail
        go_ret
        exact ⟨rfl, _, rfl, Lib.hid (Or.inr ⟨k, rfl, hk1, ⟨hlt, toList_inj HQ.out⟩, HA.out⟩)⟩
      · have hq' : ((s.extract k (k + t.size)).toList == t.toList) = false := by simpa using hq
        have HQ := Lib.hid hq
        clear hq
        go_wp2_with fail
        go_roundw
        case rel => exact ⟨k + 1, by omega, by omega, by go_num, trivial, fun q h1 h2 => by
          by_cases e : q = k
          · subst e; exact fun h => HQ.out (by rw [h.2])
          · exact HA.out q h1 (by omega)⟩
        case measure => simp [intOf]; omega
    · have hlt' : ¬ (k : Int) + (t.size : Int) ≤ (s.size : Int) := by omega
      go_wp2_with fail
      go_ret
      exact ⟨rfl, _, rfl, Lib.hid (Or.inl ⟨rfl, fun m h1 h => by
        by_cases e : m < k
        · exact HA.out m h1 e h
        · have := h.1; omega⟩)⟩
end Go.Proofs.YtaockngppbeanaaGreatDoor
