/- gojq.funcJoin's iterator over a list of texts: what it yields, in its order. Condition: each text has 2000 bytes at most. -/
import Derived.RangeFuncBox
import Derived.RangeFuncLeaves
import Derived.RangeFuncFrom
import Derived.RangeFuncWrites
import Derived.RangeFuncNested
import Derived.RangeFuncBound
import Derived.RangeFuncCalls
import Derived.Shelf.Abstract
import Derived.Shelf.RegionOpen
import Derived.WalkKit
import Derived.OwnWalkIn
import Derived.TacticsInMore
import Derived.LoopNIn
import Derived.LoopIn
import Derived.Test.YtaockngppbeanaaGreatDoorBase
import Derived.Test.YtaockngppbeanaaGreatDoorAsserts
namespace Go.Proofs.YtaockngppbeanaaGreatDoor
open Go.RowKit Go.Shelf
attribute [local go_sem] Oper.semAt_some

/-- A text that fits. -/
abbrev T2 := { s : ByteArray // s.size ≤ 2000 }
def e2 : T2 := ⟨⟨#[]⟩, by decide⟩
/-- What stands ahead of element k. -/
def ahead2 (sep : T2) (k : Nat) : T2 := if k = 0 then e2 else sep
/-- What has come when k rounds are over. -/
def js (sep : T2) (ss : Nat → T2) : Nat → List T2
  | 0 => []
  | k + 1 => js sep ss k ++ [ahead2 sep k] ++ [ss k]
theorem js_length (sep : T2) (ss : Nat → T2) : ∀ k, (js sep ss k).length = 2 * k
  | 0 => rfl
  | k + 1 => by simp [js, js_length sep ss k]; omega
abbrev tv (x : T2) : Value := .iface 9 (.string x.1)

set_option maxRecDepth 100000 in
set_option maxHeartbeats 4000000 in
theorem joinIter_in (F : Fence) (n : Nat) (hF : F.fn 106) (hro : F.round = none) (hn : 1 ≤ n) (l Bs Bx n₀ b off len cap : Nat) (sep : T2) (ss : Nat → T2) (hlen : len ≤ 800) (hb : b < n₀) (hbx : Bx < n₀) (J Jx : List T2 → World → Prop)
    (hY : ∀ pre x W, J pre W → pre.length < 2 * len → YieldAt F (n - 1) Tryz.prog l #[tv x] W fun e W' =>
      (e = .returned (.bool true) ∧ J (pre ++ [x]) W' ∧ Below n₀ W W') ∨ (e = .returned (.bool false) ∧ Jx (pre ++ [x]) W'))
    (W : World) (hBs : W.cell? ⟨Bs, 0, none⟩ = some (.slice (some ⟨b, off, none⟩) len cap)) (hBx : W.cell? ⟨Bx, 0, none⟩ = some (tv sep)) (hc : ∀ j, j < len → W.cell? ⟨b, off + j, none⟩ = some (tv (ss j))) (h0 : J [] W) :
    CallsIn F n Tryz.prog 106 #[.func (.yield l) #[] #[], .pointer (some ⟨Bs, 0, none⟩), .pointer (some ⟨Bx, 0, none⟩)] W fun e W' => (∃ v, e = .returned v) ∧
      ((∃ xs, xs = js sep ss len ∧ J xs W') ∨ (∃ pre, True ∧ Jx pre W')) := by
  refine callsIn_of_wp Tryz.func106 rfl hF ?_ hro
  simp only [Tryz.ntmps106, List.size_toArray, List.length_cons, List.length_nil, Nat.reduceAdd, Nat.reduceSub, Array.replicate_succ, Array.replicate_zero, List.push_toArray, List.append_toArray, List.nil_append, List.cons_append]
  gi_wp2
  gi_loopw [10] (fun i wr => ∃ k : Nat, k ≤ len ∧ i = .int .i64 k ∧ J (js sep ss k) wr ∧ Below n₀ W wr)
    (fun i _ => len - (intOf i).toNat)
  case atStart => exact ⟨0, Nat.zero_le _, rfl, h0, Below.refl _ _⟩
  case round =>
    obtain ⟨k, hk, rfl, hJs, hnx⟩ := hrel
    by_cases hlt : k < len
    · have hcx := (hnx.cell (p := ⟨b, off + k, none⟩) hb).trans (hc k hlt)
      have hxx := (hnx.cell (p := ⟨Bx, 0, none⟩) hbx).trans hBx
      have hj := js_length sep ss k
      have hy1 := hY _ (ahead2 sep k) wr hJs (by omega)
      by_cases hk0 : k = 0
      · have hk1 : ((k : Int) == 0) = true := by simp; omega
        have ea : ahead2 sep k = e2 := if_pos hk0
        rw [ea] at hy1
        obtain ⟨fn, tmps, assign, body, hy, hR⟩ := hy1
        simp only [tv, e2] at hy
        have EA := Lib.hid ea
        clear ea
        clear hk0
        gi_wp2
        refine hR.mono ?_
        rintro e W3 (⟨rfl, hJ3, hk3⟩ | ⟨rfl, hJx3⟩)
        · have hy2 := hY _ (ss k) W3 hJ3 (by simp; omega)
          obtain ⟨fn2, tmps2, assign2, body2, hy2, hR2⟩ := hy2
          clear hy hR hcx hxx
          gi_wp2
          refine hR2.mono ?_
          rintro e W4 (⟨rfl, hJ4, hk4⟩ | ⟨rfl, hJx4⟩)
          · gi_wp2
            go_roundw
            case rel => exact ⟨k + 1, by omega, by simp, by rw [js, EA.out]; exact hJ4, (hnx.trans hk3).trans hk4⟩
            case measure => simp [intOf]; omega
          · gi_wp2
            refine bodyPost_ret (results_none rfl _ _ _) rfl ?_
            exact ⟨⟨_, rfl⟩, .inr ⟨_, trivial, hJx4⟩⟩
        · gi_wp2
          refine bodyPost_ret (results_none rfl _ _ _) rfl ?_
          exact ⟨⟨_, rfl⟩, .inr ⟨_, trivial, hJx3⟩⟩
      · have hk1 : ((k : Int) == 0) = false := by simp; omega
        have ea : ahead2 sep k = sep := if_neg hk0
        rw [ea] at hy1
        obtain ⟨fn, tmps, assign, body, hy, hR⟩ := hy1
        simp only [tv] at hy
        have EA := Lib.hid ea
        clear ea
        clear hk0
        gi_wp2
        refine hR.mono ?_
        rintro e W3 (⟨rfl, hJ3, hk3⟩ | ⟨rfl, hJx3⟩)
        · have hy2 := hY _ (ss k) W3 hJ3 (by simp; omega)
          obtain ⟨fn2, tmps2, assign2, body2, hy2, hR2⟩ := hy2
          clear hy hR hcx hxx
          gi_wp2
          refine hR2.mono ?_
          rintro e W4 (⟨rfl, hJ4, hk4⟩ | ⟨rfl, hJx4⟩)
          · gi_wp2
            go_roundw
            case rel => exact ⟨k + 1, by omega, by simp, by rw [js, EA.out]; exact hJ4, (hnx.trans hk3).trans hk4⟩
            case measure => simp [intOf]; omega
          · gi_wp2
            refine bodyPost_ret (results_none rfl _ _ _) rfl ?_
            exact ⟨⟨_, rfl⟩, .inr ⟨_, trivial, hJx4⟩⟩
        · gi_wp2
          refine bodyPost_ret (results_none rfl _ _ _) rfl ?_
          exact ⟨⟨_, rfl⟩, .inr ⟨_, trivial, hJx3⟩⟩
    · obtain rfl : k = len := by omega
      gi_wp2
      go_end0
      exact ⟨⟨_, rfl⟩, .inl ⟨_, rfl, hJs⟩⟩
end Go.Proofs.YtaockngppbeanaaGreatDoor
