/- gojq compares two arrays: 0 where they are as long, and element by element the same. -/
import Derived.Test.YtaockngppbeanaaGreatDoorLeaf
import Derived.StillTailTactics
namespace Go.Proofs.YtaockngppbeanaaGreatDoor
open Go.RowKit
set_option maxRecDepth 100000 in
set_option maxHeartbeats 1000000 in
theorem glists_walk (R : Nat → Prop) (a c : Option Addr) (an ac cn cc : Nat) (L V : Nat → Value) (w : World)
    (ha1 : an ≤ 9223372036854775807) (hc1 : cn ≤ 9223372036854775807) (lo hi lo' hi' : Nat) (hB1 : hi ≤ w.heap.size) (hB2 : hi' ≤ w.heap.size)
    (r1 : Row w lo hi a an L) (r2 : Row w lo' hi' c cn V)
    (hcall : ∀ (k : Nat) (wr : World), k < an → k < cn → Below w.heap.size w wr → Calls Tryz.prog 126 #[L k, V k] wr (RI wr fun r => (r = 0 ↔ R k))) :
    Calls Tryz.prog 148 #[.slice a an ac, .slice c cn cc] w (RI w fun r => (r = 0 ↔ an = cn ∧ ∀ k, k < an → R k)) := by
  by_cases hle : (cn : Int) < (an : Int)
  · go_enter Tryz.func148, Tryz.ntmps148
    go_wp2_with fail
    go_loopw [12] (fun i wr => ∃ k : Nat, k ≤ an ∧ k ≤ cn ∧ i = .int .i64 k ∧ Below w.heap.size w wr ∧ ∀ q, q < k → R q) (fun i _ => an - (intOf i).toNat)
    case atStart => exact ⟨0, Nat.zero_le _, Nat.zero_le _, rfl, Below.refl _ _, fun q hq => by omega⟩
    case round =>
      obtain ⟨k, hk, hk2, rfl, hb, hall⟩ := hrel
      have HA := Lib.hid hall
      clear hall
      by_cases hlt : k < an ∧ k < cn
      · obtain ⟨hlt, hlt2⟩ := hlt
        rcases r1 with r1 | ⟨b, off, ha, hlo, hlb, r1⟩
        · omega
        rcases r2 with r2 | ⟨b2, off2, ha2, hlo2, hlb2, r2⟩
        · omega
        have c0 := (hb.cell (p := ⟨b, off + k, none⟩) (by show b < _; omega)).trans (r1 k hlt)
        have d0 := (hb.cell (p := ⟨b2, off2 + k, none⟩) (by show b2 < _; omega)).trans (r2 k hlt2)
        have hcal := hcall k
        clear hcall
        go_wp2_with fail
        go_still_tail 8, (by kernel_rfl)
        change wpList _ _ _ _ _ wr.drew
        have hbd : Below w.heap.size w wr.drew := hb.drew
        generalize wr.drew = w2 at hbd ⊢
        clear c0 d0 hb
        go_wp2_with fail
        refine (hcal _ hlt hlt2 hbd).mono ?_
        rintro e w3 ⟨r, rfl, hr, hb3⟩
        by_cases hr0 : r = 0
        · have hRk := hr.out.1 hr0
          subst hr0
          go_wp2_with fail
          have hrel : ∃ k' : Nat, k' ≤ an ∧ k' ≤ cn ∧ Value.int .i64 ((k : Int) + 1) = .int .i64 k' ∧ Below w.heap.size w w3 ∧ ∀ q, q < k' → R q := ⟨k + 1, by omega, by omega, by go_num, hbd.trans (hb3.mono hbd.size), fun q hq => by
            by_cases e : q = k
            · subst e; exact hRk
            · exact HA.out q (by omega)⟩
          go_roundw
          case rel => first | exact hrel | ((repeat apply Exists.intro); exact ⟨hrel, by rw [ha, ha2]; try rfl⟩)
          case measure => simp [intOf]; omega
        · have h0' : (r == 0) = false := by simpa using hr0
          have h0'' : (r != 0) = true := by simpa using hr0
          have HR := Lib.hid hr0; clear hr0
          go_wp2_with fail
          go_ret
          exact ⟨_, rfl, Lib.hid ⟨fun h => absurd h HR.out, fun h => absurd (hr.out.2 (h.2 k hlt)) HR.out⟩, hbd.trans (hb3.mono hbd.size)⟩
      · have hex : k = an ∨ k = cn := by omega
        have HX := Lib.hid hex; clear hex
        have hn1 : ¬ (k : Int) < (cn : Int) := by omega
        have hci := compare_int an cn
        go_wp2_with (go_at_call 143; refine (hci _).mono ?_; rintro e w3 ⟨r, rfl, hr, rfl⟩)
        go_ret
        exact ⟨_, rfl, Lib.hid ⟨fun h => by
          have := hr.out.1 h
          exact ⟨by omega, fun q hq => HA.out q (by have := HX.out; omega)⟩, fun h => hr.out.2 (by omega)⟩, hb⟩
  · go_enter Tryz.func148, Tryz.ntmps148
    go_wp2_with fail
    go_loopw [12] (fun i wr => ∃ k : Nat, k ≤ an ∧ k ≤ cn ∧ i = .int .i64 k ∧ Below w.heap.size w wr ∧ ∀ q, q < k → R q) (fun i _ => an - (intOf i).toNat)
    case atStart => exact ⟨0, Nat.zero_le _, Nat.zero_le _, rfl, Below.refl _ _, fun q hq => by omega⟩
    case round =>
      obtain ⟨k, hk, hk2, rfl, hb, hall⟩ := hrel
      have HA := Lib.hid hall
      clear hall
      by_cases hlt : k < an ∧ k < cn
      · obtain ⟨hlt, hlt2⟩ := hlt
        rcases r1 with r1 | ⟨b, off, ha, hlo, hlb, r1⟩
        · omega
        rcases r2 with r2 | ⟨b2, off2, ha2, hlo2, hlb2, r2⟩
        · omega
        have c0 := (hb.cell (p := ⟨b, off + k, none⟩) (by show b < _; omega)).trans (r1 k hlt)
        have d0 := (hb.cell (p := ⟨b2, off2 + k, none⟩) (by show b2 < _; omega)).trans (r2 k hlt2)
        have hcal := hcall k
        clear hcall
        go_wp2_with fail
        go_still_tail 8, (by kernel_rfl)
        change wpList _ _ _ _ _ wr.drew
        have hbd : Below w.heap.size w wr.drew := hb.drew
        generalize wr.drew = w2 at hbd ⊢
        clear c0 d0 hb
        go_wp2_with fail
        refine (hcal _ hlt hlt2 hbd).mono ?_
        rintro e w3 ⟨r, rfl, hr, hb3⟩
        by_cases hr0 : r = 0
        · have hRk := hr.out.1 hr0
          subst hr0
          go_wp2_with fail
          have hrel : ∃ k' : Nat, k' ≤ an ∧ k' ≤ cn ∧ Value.int .i64 ((k : Int) + 1) = .int .i64 k' ∧ Below w.heap.size w w3 ∧ ∀ q, q < k' → R q := ⟨k + 1, by omega, by omega, by go_num, hbd.trans (hb3.mono hbd.size), fun q hq => by
            by_cases e : q = k
            · subst e; exact hRk
            · exact HA.out q (by omega)⟩
          go_roundw
          case rel => first | exact hrel | ((repeat apply Exists.intro); exact ⟨hrel, by rw [ha, ha2]; try rfl⟩)
          case measure => simp [intOf]; omega
        · have h0' : (r == 0) = false := by simpa using hr0
          have h0'' : (r != 0) = true := by simpa using hr0
          have HR := Lib.hid hr0; clear hr0
          go_wp2_with fail
          go_ret
          exact ⟨_, rfl, Lib.hid ⟨fun h => absurd h HR.out, fun h => absurd (hr.out.2 (h.2 k hlt)) HR.out⟩, hbd.trans (hb3.mono hbd.size)⟩
      · have hex : k = an ∨ k = cn := by omega
        have HX := Lib.hid hex; clear hex
        have hn1 : ¬ (k : Int) < (an : Int) := by omega
        have hci := compare_int an cn
        go_wp2_with (go_at_call 143; refine (hci _).mono ?_; rintro e w3 ⟨r, rfl, hr, rfl⟩)
        go_ret
        exact ⟨_, rfl, Lib.hid ⟨fun h => by
          have := hr.out.1 h
          exact ⟨by omega, fun q hq => HA.out q (by have := HX.out; omega)⟩, fun h => hr.out.2 (by omega)⟩, hb⟩
end Go.Proofs.YtaockngppbeanaaGreatDoor
