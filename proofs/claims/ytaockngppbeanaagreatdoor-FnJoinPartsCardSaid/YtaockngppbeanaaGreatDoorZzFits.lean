/- laws.zzFits1 and zzFits2 answer a bool, whatever they are handed that can be read. Condition: lengths that fit an int. -/
import Derived.Test.YtaockngppbeanaaGreatDoorRead
import Derived.Test.YtaockngppbeanaaGreatDoorVague
namespace Go.Proofs.YtaockngppbeanaaGreatDoor
open Go.RowKit

set_option maxRecDepth 100000 in
set_option maxHeartbeats 1000000 in
theorem zz2_any (a : Option Addr) (n c : Nat) (B : Nat) (S : Nat → ByteArray) (w : World) (hn : n ≤ 9223372036854775807) (hr : Row1 w B a n fun i => .string (S i)) (hs : ∀ i, i < n → (S i).size ≤ 140737488351232) :
    Calls Tryz.prog 10 #[.slice a n c] w (RB w fun _ => True) := by
  go_enter Tryz.func10, Tryz.ntmps10
  go_wp2
  · go_ret
    exact ⟨_, rfl, Lib.hid trivial, Below.refl _ _⟩
  · go_loop [4, 10] (fun _ i => ∃ k : Nat, k ≤ n ∧ i = .int .i64 k) (fun _ i => n - (intOf i).toNat)
    case atStart => exact ⟨0, Nat.zero_le _, rfl⟩
    case round =>
      obtain ⟨k, hk, rfl⟩ := hrel
      by_cases hlt : k < n
      · rcases hr with hr | ⟨b, off, ha, hlb, hr⟩
        · omega
        have hc := hr k hlt
        have hz := hs k hlt
        go_wp2
        · go_ret
          exact ⟨_, rfl, Lib.hid trivial, Below.refl _ _⟩
        · go_round
          case rel => first | exact ⟨k + 1, by omega, by go_num⟩ | ((repeat apply Exists.intro); exact ⟨⟨k + 1, by omega, by go_num⟩, by rw [ha]; rfl⟩)
          case measure => simp [intOf]; omega
      · go_wp2
        go_ret
        exact ⟨_, rfl, Lib.hid trivial, Below.refl _ _⟩

set_option maxRecDepth 100000 in
set_option maxHeartbeats 1000000 in
theorem zz1_any (j : JV) (x : VC) (B : Nat) (w : World) (hrep : VRep w B x j) (hB : B ≤ w.heap.size) : Calls Tryz.prog 5 #[x.val] w (RB w fun _ => True) := by
  obtain ⟨_, ls, ks, vs, L, V, hn1, hn2, hn3, hb1, hb2, hb3, hc1, hc2, hc3, hc4, hc5, hc6, ht, hk, hh, hs, r1, r2, r3, h1, h3⟩ := hrep
  have hz := fun (wr : World) (hb : Below w.heap.size w wr) => zz2_any x.ka x.kn x.kc B (fun i => ks.getD i ByteArray.empty) wr hb2 (r2.keep (hb.mono hB) (Nat.le_refl _)) (fun i hi => hs i (by omega))
  have hw : Below w.heap.size w (boxV w x) := (Below.refl _ _).alloc (Nat.le_refl _) _
  clear r1 r2 r3 h1 h3 hs hn1 hn2 hn3
  go_enter Tryz.func5, Tryz.ntmps5
  go_wp2_with fail
  · go_ret
    exact ⟨_, rfl, Lib.hid trivial, hw⟩
  · go_ret
    exact ⟨_, rfl, Lib.hid trivial, hw⟩
  · refine (hz _ hw).mono ?_
    rintro e w1 ⟨r, rfl, _, hb⟩
    have hbw := Lib.hid (hw.trans (hb.mono (by simp)))
    obtain ⟨hc, hf⟩ := bcell hb
    clear hb
    go_wp2_with fail
    all_goals
      go_ret
      exact ⟨_, rfl, Lib.hid trivial, hbw.out⟩
end Go.Proofs.YtaockngppbeanaaGreatDoor
