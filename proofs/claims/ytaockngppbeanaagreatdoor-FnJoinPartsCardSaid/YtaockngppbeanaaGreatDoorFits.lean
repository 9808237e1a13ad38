/- The reference takes only right values: spec.Fit, and laws.fits at a row of them. Condition: utf8 tables as they were laid. -/
import Derived.Test.YtaockngppbeanaaGreatDoorFit0
namespace Go.Proofs.YtaockngppbeanaaGreatDoor
open Go.RowKit
set_option maxRecDepth 100000 in
set_option maxHeartbeats 2000000 in
theorem fit_any (j : JV) (x : VC) (B : Nat) (w : World) (hrep : VRep w B x j) (hB : B ≤ w.heap.size) (hT : Tabs w) (h2 : 2 ≤ w.heap.size) :
    Calls Tryz.prog 15 #[x.val] w (RB w fun r => r = true → Right j) := by
  have hv := fun (w' : World) (hb : Below w.heap.size w w') (p b : Int) (bad : Bool) (hl : LkAt w' (w.heap.size + 1) p b bad) (ho : LkOK p b bad) =>
    value_any _ j x (w.heap.size + 1) w' p b bad 0 (Nat.lt_succ_self _) (hrep.keep (hb.mono hB) (by omega)) hl ho (hT.keep (L := w.heap.size + 1) (Mods.of_below hb) (by omega)) (by omega)
  clear hrep
  go_enter Tryz.func15, Tryz.ntmps15
  have hw2 : ∀ o1 o2, Below w.heap.size w ((w.alloc o1).alloc o2) := fun o1 o2 => ((Below.refl _ _).alloc (Nat.le_refl _) _).alloc (by simp) _
  go_wp2_with fail
  refine (hv _ (hw2 _ _) 0 0 false ?_ (fun _ => by omega)).mono ?_
  · show LkAt _ _ _ _ _
    unfold LkAt
    have := heap_alloc_new (w.alloc (Obj.cells #[Value.int IntKind.i64 x.kind, Value.int IntKind.i64 x.half, Value.string x.text, Value.slice x.la x.ln x.lc, Value.slice x.ka x.kn x.kc, Value.slice x.va x.vn x.vc] 26)) (Obj.cells #[Value.int IntKind.i64 0, Value.int IntKind.i64 0, Value.bool false] 56)
    rwa [World.size_alloc] at this
  rintro e w3 ⟨p3, b3, bad3, rfl, hl3, hm3, hf3⟩
  obtain ⟨x0, x1, x2, y0, y1, y2⟩ := hl3.c
  go_wp2_with fail
  go_ret
  exact ⟨_, rfl, Lib.hid (fun h => (hf3.out.2 (by simpa using h)).2.2), (hw2 _ _).trans ⟨hm3.os, hm3.tape, hm3.output, hm3.size, fun k hk => hm3.block k (by simp; omega) (by omega)⟩⟩
/-- laws.fits at a row of values. -/
def dfl : JV := JV.mk 0 0 ByteArray.empty [] [] []
set_option maxRecDepth 100000 in
set_option maxHeartbeats 2000000 in
theorem fits_any (js : List JV) (L : Nat → VC) (b c : Nat) (B : Nat) (w : World) (hc : ∀ i, i < js.length → At6 w b (i * 6) (L i)) (hb : b < w.heap.size) (hl : js.length ≤ 9223372036854775807)
    (hrep : ∀ i, i < js.length → VRep w B (L i) (js.getD i dfl)) (hB : B ≤ w.heap.size) (hT : Tabs w) (h2 : 2 ≤ w.heap.size) :
    Calls Tryz.prog 6 #[.slice (some ⟨b, 0, none⟩) js.length c] w (RB w fun r => r = true → ∀ i, i < js.length → Right (js.getD i dfl)) := by
  have hf := fun (i : Nat) (hi : i < js.length) (w' : World) (hbl : Below w.heap.size w w') =>
    fit_any (js.getD i dfl) (L i) B w' ((hrep i hi).keep (hbl.mono hB) (Nat.le_refl _)) (Nat.le_trans hB hbl.size) (hT.keep (L := w.heap.size) (Mods.of_below hbl) (by omega)) (Nat.le_trans h2 hbl.size)
  clear hrep
  generalize js.length = n at *
  go_enter Tryz.func6, Tryz.ntmps6
  go_wp2_with fail
  go_loopw [7] (fun i wr => ∃ k : Nat, k ≤ n ∧ i = .int .i64 k ∧ Below w.heap.size w wr ∧ ∀ q, q < k → Right (js.getD q dfl)) (fun i _ => n - (intOf i).toNat)
  case atStart => exact ⟨0, Nat.zero_le _, rfl, Below.refl _ _, fun q hq => by omega⟩
  case round =>
    obtain ⟨k, hk, rfl, hbw, hall⟩ := hrel
    have HA := Lib.hid hall; clear hall
    by_cases hlt : k < n
    · obtain ⟨c0, c1, c2, c3, c4, c5⟩ := (hc k hlt).keep hbw hb
      have hfk := hf k hlt
      go_wp2_with (go_at_call 15; refine (hfk _ (hbw.alloc hbw.size _)).mono ?_; rintro e w3 ⟨r, rfl, hr, hb3⟩)
      · have hr0 : (!r) = true := by assumption
        obtain rfl : r = false := by simpa using hr0
        go_ret
        exact ⟨_, rfl, Lib.hid (fun h => by cases h), (hbw.alloc hbw.size _).trans (hb3.mono (by have := hbw.size; simp; omega))⟩
      · have hr1 : (!r) = false := by assumption
        obtain rfl : r = true := by simpa using hr1
        have hR := Lib.hid (hr.out rfl)
        go_roundw
        case rel => exact ⟨k + 1, by omega, by go_num, (hbw.alloc hbw.size _).trans (hb3.mono (by have := hbw.size; simp; omega)), fun q hq => by
            by_cases e : q = k
            · subst e; exact hR.out
            · exact HA.out q (by omega)⟩
        case measure => simp [intOf]; omega
    · go_wp2_with fail
      go_ret
      exact ⟨_, rfl, Lib.hid (fun _ i hi => HA.out i (by omega)), hbw⟩
end Go.Proofs.YtaockngppbeanaaGreatDoor
