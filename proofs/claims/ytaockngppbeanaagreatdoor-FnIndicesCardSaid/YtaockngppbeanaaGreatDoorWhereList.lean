/- spec.where at a list: the places of a row of elements, and of one element. Condition: lists of 400 elements at most. -/
import Derived.Test.YtaockngppbeanaaGreatDoorWhereText
import Derived.StillTailTactics
import Derived.IntWalk
namespace Go.Proofs.YtaockngppbeanaaGreatDoor
open Go.RowKit

theorem RB.to {w : World} {p q : Bool → Prop} {e : Ending} {w' : World} (h : RB w p e w') (g : ∀ r, p r → q r) : RB w q e w' :=
  let ⟨r, he, hp, hb⟩ := h
  ⟨r, he, Lib.hid (g r hp.out), hb⟩

/-- The three boxes that spec.where lays. -/
def box3 (w : World) (x y : VC) : World :=
  ((boxV w x).alloc (.cells #[.int .i64 y.kind, .int .i64 y.half, .string y.text, .slice y.la y.ln y.lc, .slice y.ka y.kn y.kc, .slice y.va y.vn y.vc] 26)).alloc (.cells #[.int .i64 0, .int .i64 0, .string ⟨#[]⟩, .slice none 0 0, .slice none 0 0, .slice none 0 0] 26)
theorem box3_size (w : World) (x y : VC) : (box3 w x y).heap.size = w.heap.size + 3 := by simp [box3]
theorem box3_below (w : World) (x y : VC) : Below w.heap.size w (box3 w x y) := (((Below.refl _ _).alloc (Nat.le_refl _) _).alloc (by simp) _).alloc (by simp; omega) _
theorem box3_0 (w : World) (x y : VC) : (box3 w x y).heap[w.heap.size]? = some (.cells #[.int .i64 x.kind, .int .i64 x.half, .string x.text, .slice x.la x.ln x.lc, .slice x.ka x.kn x.kc, .slice x.va x.vn x.vc] 26) :=
  (heap_alloc_old _ _ (by simp; omega)).trans ((heap_alloc_old _ _ (by simp)).trans (heap_alloc_new _ _))
theorem box3_1 (w : World) (x y : VC) : (box3 w x y).heap[w.heap.size + 1]? = some (.cells #[.int .i64 y.kind, .int .i64 y.half, .string y.text, .slice y.la y.ln y.lc, .slice y.ka y.kn y.kc, .slice y.va y.vn y.vc] 26) := by
  refine (heap_alloc_old _ _ (by simp)).trans ?_
  have := heap_alloc_new (boxV w x) (.cells #[.int .i64 y.kind, .int .i64 y.half, .string y.text, .slice y.la y.ln y.lc, .slice y.ka y.kn y.kc, .slice y.va y.vn y.vc] 26)
  simpa using this
theorem box3_2 (w : World) (x y : VC) : (box3 w x y).heap[w.heap.size + 2]? = some (.cells #[.int .i64 0, .int .i64 0, .string ⟨#[]⟩, .slice none 0 0, .slice none 0 0, .slice none 0 0] 26) := by
  have := heap_alloc_new ((boxV w x).alloc (.cells #[.int .i64 y.kind, .int .i64 y.half, .string y.text, .slice y.la y.ln y.lc, .slice y.ka y.kn y.kc, .slice y.va y.vn y.vc] 26)) (.cells #[.int .i64 0, .int .i64 0, .string ⟨#[]⟩, .slice none 0 0, .slice none 0 0, .slice none 0 0] 26)
  simpa [box3] using this

set_option maxRecDepth 100000 in
set_option maxHeartbeats 8000000 in
theorem where_one_walk (P : Nat → Prop) (x y : VC) (B : Nat) (L : Nat → VC) (w : World) (hx : x.kind = 5) (hy0 : y.kind ≠ 0) (hy5 : y.kind ≠ 5) (hB : B ≤ w.heap.size) (hn : x.ln ≤ 400) (r1 : Row6 w B x.la x.ln L)
    (hcall : ∀ (k : Nat) (wr : World), k < x.ln → Below w.heap.size w wr → Calls Tryz.prog 26 #[y.val, (L k).val] wr (RB wr fun r => r = true ↔ P k))
    (N : Prop) (Q : List Nat → Prop) (ho : Q (pick P x.ln)) :
    Calls Tryz.prog 45 #[.string nmI, x.val, y.val] w (RWh w N Q) := by
  obtain ⟨bx, hbx⟩ : ∃ b, b = box3 w x y := ⟨_, rfl⟩
  have X0 := box3_size w x y
  have X1 := box3_below w x y
  have M1 := box3_1 w x y
  have M2 := box3_2 w x y
  rw [← hbx] at X0 X1 M1 M2
  obtain ⟨k1, f1, s, la, ln, lc, ka, kn, kc, va, vn, vc⟩ := x
  obtain ⟨k2, f2, t, la', ln', lc', ka', kn', kc', va', vn', vc'⟩ := y
  simp only at hx hy0 hy5 hn r1 hcall M1 ho ⊢
  have HOO := Lib.hid ho
  clear ho
  subst hx
  have HM := Lib.hid (And.intro X0 (And.intro M1 M2))
  have hX1 := X1
  clear X0 X1 M1 M2
  have b0 : (k2 == 0) = false := by simpa using hy0
  have b5 : (k2 == 5) = false := by simpa using hy5
  clear hy0 hy5
  obtain ⟨POST, hP⟩ : ∃ R, RWh w N Q = R := ⟨_, rfl⟩
  rw [hP]
  have HP := Lib.hid hP
  have HBX := Lib.hid hbx
  clear hP hbx
  obtain ⟨i0, hi0, hz0, hz1, hz2⟩ := info_parts info26
  go_enter Tryz.func45, Tryz.ntmps45
  go_wp2_with fail
  go_loopw [8, 112] (fun v i wr => ∃ (k n' c' : Nat) (a' : Option Addr), k ≤ ln ∧ i = .int .i64 k ∧ v = .slice a' n' c' ∧ n' = (pick P k).length ∧ wr.ownsRow (w.heap.size + 3) 26 6 (.slice a' n' c') n' (numsC (pick P k)) ∧ Below (w.heap.size + 3) bx wr) (fun _ i _ => ln - (intOf i).toNat)
  case atStart =>
    refine ⟨0, 0, 0, none, Nat.zero_le _, rfl, rfl, rfl, World.ownsRow_nil _ _ _ _, ?_⟩
    rw [HBX.out]
    exact Below.refl _ _
  case round =>
    obtain ⟨k, n', c', a', hk, rfl, rfl, hn', hown, hb⟩ := hrel
    have HOW := Lib.hid hown
    have HN := Lib.hid hn'
    have hn3 : n' ≤ 400 := by rw [hn']; exact Nat.le_trans (pick_len _ _) (by omega)
    clear hown hn'
    have hbw : Below w.heap.size w wr := hX1.trans (hb.mono (by omega))
    have hszr : w.heap.size + 3 ≤ wr.heap.size := by have := hb.size; have := HM.out.1; omega
    by_cases hlt : k < ln
    · rcases r1 with r1 | ⟨b, off, ha, hlb, r1⟩
      · omega
      obtain ⟨c0, c1, c2, c3, c4, c5⟩ := ((r1 k hlt).keep (w' := wr) hbw (by omega))
      obtain ⟨q0, q1, q2, q3, q4, q5⟩ := cells6 ((hb.block (w.heap.size + 1) (by omega)).trans HM.out.2.1)
      have hc := hcall k
      have hlz : w.heap.size + 1 < wr.heap.size := by omega
      go_wp2_with fail
      refine (hc _ hlt (hbw.alloc hbw.size _)).mono ?_
      rintro e w3 ⟨r, rfl, hr, hb3⟩
      have hle3 : wr.heap.size + 1 ≤ w3.heap.size := by have := hb3.size; simpa using this
      have hown3 := Lib.hid (ownsRow_keep (HOW.out.alloc _) hb3)
      have hbl3 := (hb.alloc hszr _).trans (hb3.mono (by simp; omega))
      clear hb3 c0 c1 c2 c3 c4 c5 q0 q1 q2 q3 q4 q5 hcall hc
      have HR := Lib.hid hr.out
      clear hr
      cases r with
      | false =>
        have hPk : ¬ P k := fun h => by have := HR.out.2 h; cases this
        have hpk : Hid (pick P (k + 1) = pick P k) := Lib.hid (pick_no hPk)
        clear hPk
        go_wp2_with fail
        go_roundw
        case rel => first | exact ⟨k + 1, n', c', a', by omega, by go_num, rfl, by rw [hpk.out]; exact HN.out, by rw [hpk.out]; exact hown3.out, hbl3⟩ | ((repeat apply Exists.intro); exact ⟨⟨k + 1, n', c', a', by omega, by go_num, rfl, by rw [hpk.out]; exact HN.out, by rw [hpk.out]; exact hown3.out, hbl3⟩, by rw [ha]; rfl⟩)
        case measure => simp [intOf]; omega
      | true =>
        have hPk : P k := HR.out.1 rfl
        have hnum : Hid (numsC (pick P (k + 1)) = numsC (pick P k) ++ c6 (numC k)) := Lib.hid (by
          rw [pick_yes hPk]; simp [numsC, c6, numC]; rfl)
        have hlen : Hid ((pick P (k + 1)).length = n' + 1) := Lib.hid (by
          rw [pick_yes hPk, HN.out]; simp)
        clear hPk
        have hnm := num_any k (by omega) w3
        obtain ⟨X, hX⟩ : ∃ X, X = numC k := ⟨_, rfl⟩
        rw [← hX] at hnum hnm
        have HX := Lib.hid hX
        clear hX
        go_wp2_with fail
        refine hnm.mono ?_
        rintro e w4 ⟨rfl, hb4⟩
        have hown4 := Lib.hid (ownsRow_keep hown3.out hb4)
        have hbl4 := hbl3.trans (hb4.mono (by omega))
        have hle4 : w.heap.size + 3 ≤ w4.heap.size := by have := hb4.size; omega
        clear hb4
        go_wp2_with (first
          | (at_builtin; go_loud (refine wpList_append_own _ rfl (.tmp 120) (.tmp 123) 23 rfl (w.heap.size + 3) 26 i0 _ 6 104 Tryz.underlying23 hi0 hz0 hz1 hz2 rfl (by decide) (.slice a' n' c') n' (numsC (pick P k)) rfl (hown4.out.alloc _) ⟨w4.heap.size, 0, none⟩ 1 1 (c6 X) rfl rfl (cells_new _ (c6 X) 26 _ rfl) (c6_one X) (by unfold maxLen; omega) (by omega) (by simp; omega) ?_); intro v' w9 hown' hgrow _; obtain ⟨a9, c9, rfl⟩ := ownsRow_slice hown'; have hbl9 := (hbl4.alloc hle4 _).grown hgrow (by simp; omega) (fun j ej => (hown4.out.lt j ej).1); have hown9 := Lib.hid hown'; clear hown' hgrow)
          | fail)
        go_roundw
        case rel => first | exact ⟨k + 1, n' + 1, c9, a9, by omega, by go_num, rfl, hlen.out.symm, hnum.out ▸ hown9.out, hbl9⟩ | ((repeat apply Exists.intro); exact ⟨⟨k + 1, n' + 1, c9, a9, by omega, by go_num, rfl, hlen.out.symm, hnum.out ▸ hown9.out, hbl9⟩, by rw [ha]; rfl⟩)
        case measure => simp [intOf]; omega
    · obtain rfl : k = ln := by omega
      have hcal := array_any a' n' c' wr
      obtain ⟨X, hX⟩ : ∃ X, X = listC a' n' c' := ⟨_, rfl⟩
      rw [← hX] at hcal
      have HX := Lib.hid hX
      clear hX
      go_wp2_with fail
      refine hcal.mono ?_
      rintro e w4 ⟨rfl, hb4⟩
      have m5 := (hb4.block (w.heap.size + 2) (by omega)).trans ((hb.block (w.heap.size + 2) (by omega)).trans HM.out.2.2)
      have ho5 := Lib.hid (ownsRow_keep HOW.out hb4)
      have hbw5 := Lib.hid (hbw.trans (hb4.mono hbw.size))
      clear hb4 hb
      obtain ⟨z0, z1, z2, z3, z4, z5⟩ := cells6 m5
      have z6 := cell_of_block m5
      have y0 := (z6 0).2
      have y1 := (z6 1).2
      have y2 := (z6 2).2
      have y3 := (z6 3).2
      have y4 := (z6 4).2
      have y5 := (z6 5).2
      have HM5 := Lib.hid m5
      clear m5 z6
      go_wp2_with fail
      obtain ⟨hs6, hb6, ho6⟩ := sets6 (m := 1) (.int .i64 X.kind) (.int .i64 X.half) (.string X.text) (.slice X.la X.ln X.lc) (.slice X.ka X.kn X.kc) (.slice X.va X.vn X.vc) HM5.out hbw5.out (by omega) (Or.inr ⟨by omega, ho5.out⟩)
      have ee : w.heap.size + 1 + 1 = w.heap.size + 2 := by omega
      rw [ee]
      generalize ((((((w4.setCell _ _).setCell _ _).setCell _ _).setCell _ _).setCell _ _).setCell _ _) = w9 at hs6 ho6 hb6 ⊢
      obtain ⟨x0, x1, x2, x3, x4, x5⟩ := cells6 hs6
      rw [← HP.out]
      refine bodyPost_ret (v := .tuple #[X.val, .int .i64 0]) ?_ rfl ⟨X, 0, rfl, hb6, Or.inr (Or.inr ⟨rfl, _, a', n', c', HOO.out, HX.out, HN.out, ownsRow_base (ho6.resolve_left (by decide)) (by omega)⟩)⟩
      rw [results_cell_tmp rfl]
      go_simp
set_option maxRecDepth 100000 in
set_option maxHeartbeats 8000000 in
theorem where_list_walk (P : Nat → Prop) (x y : VC) (w : World) (hx : x.kind = 5) (hy : y.kind = 5) (hn : x.ln ≤ 400) (hm : y.ln ≤ 400) (hlc : x.ln ≤ x.lc) (hlc2 : x.lc ≤ 9223372036854775807) (ha : x.ln = 0 ∨ ∃ b off, x.la = some ⟨b, off, none⟩)
    (hcall : ∀ (k : Nat) (wr : World), k + y.ln ≤ x.ln → Below w.heap.size w wr → ∀ b off, x.la = some ⟨b, off, none⟩ → Calls Tryz.prog 88 #[.slice (some ⟨b, off + k * 6, none⟩) y.ln (x.lc - k), .slice y.la y.ln y.lc] wr (RI wr fun r => r = 0 ↔ P k))
    (N : Prop) (Q : List Nat → Prop) (ho : 1 ≤ y.ln → Q (pick P (x.ln + 1 - y.ln))) :
    Calls Tryz.prog 45 #[.string nmI, x.val, y.val] w (RWh w N Q) := by
  obtain ⟨bx, hbx⟩ : ∃ b, b = box3 w x y := ⟨_, rfl⟩
  have X0 := box3_size w x y
  have X1 := box3_below w x y
  have M0 := box3_0 w x y
  have M1 := box3_1 w x y
  have M2 := box3_2 w x y
  rw [← hbx] at X0 X1 M0 M1 M2
  obtain ⟨k1, f1, s, la, ln, lc, ka, kn, kc, va, vn, vc⟩ := x
  obtain ⟨k2, f2, t, la', ln', lc', ka', kn', kc', va', vn', vc'⟩ := y
  simp only at hx hy hn hm hlc hlc2 ha hcall ho M0 M1 ⊢
  subst hx hy
  have HM := Lib.hid (And.intro X0 (And.intro M1 (And.intro M2 M0)))
  have hX1 := X1
  clear X0 X1 M0 M1 M2
  have HOO := Lib.hid ho
  clear ho
  obtain ⟨POST, hP⟩ : ∃ R, RWh w N Q = R := ⟨_, rfl⟩
  rw [hP]
  have HP := Lib.hid hP
  have HBX := Lib.hid hbx
  clear hP hbx
  obtain ⟨i0, hi0, hz0, hz1, hz2⟩ := info_parts info26
  by_cases he : ln' = 0
  · subst he
    clear hX1
    go_enter Tryz.func45, Tryz.ntmps45
    go_wp2_with fail
    rw [← HP.out]
    refine bodyPost_ret (v := .tuple #[zeroC.val, .int .i64 2]) ?_ rfl ⟨zeroC, 2, rfl, (((Below.refl _ _).alloc (Nat.le_refl _) _).alloc (by simp) _).alloc (by simp; omega) _, Or.inl rfl⟩
    rw [results_cell_tmp rfl]
    go_simp
    simp [zeroC]
    rfl
  · have he1 : ((ln' : Int) == 0) = false := by simp; omega
    have hm1 : 1 ≤ ln' := by omega
    clear he
    go_enter Tryz.func45, Tryz.ntmps45
    go_wp2_with fail
    go_loopw [8, 10] (fun v i wr => ∃ (k n' c' : Nat) (a' : Option Addr), k ≤ ln + 1 - ln' ∧ i = .int .i64 k ∧ v = .slice a' n' c' ∧ n' = (pick P k).length ∧ wr.ownsRow (w.heap.size + 3) 26 6 (.slice a' n' c') n' (numsC (pick P k)) ∧ Below (w.heap.size + 3) bx wr) (fun _ i _ => ln + 1 - ln' - (intOf i).toNat)
    case atStart =>
      refine ⟨0, 0, 0, none, Nat.zero_le _, rfl, rfl, rfl, World.ownsRow_nil _ _ _ _, ?_⟩
      rw [HBX.out]
      exact Below.refl _ _
    case round =>
      obtain ⟨k, n', c', a', hk, rfl, rfl, hn', hown, hb⟩ := hrel
      have HOW := Lib.hid hown
      have HN := Lib.hid hn'
      have hn3 : n' ≤ 401 := by rw [hn']; exact Nat.le_trans (pick_len _ _) (by omega)
      clear hown hn'
      have hbw : Below w.heap.size w wr := hX1.trans (hb.mono (by omega))
      have hszr : w.heap.size + 3 ≤ wr.heap.size := by have := hb.size; have := HM.out.1; omega
      have hlz0 : w.heap.size < wr.heap.size := by omega
      have hlz : w.heap.size + 1 < wr.heap.size := by omega
      obtain ⟨p0, p1, p2, p3, p4, p5⟩ := cells6 ((hb.block (w.heap.size) (by omega)).trans HM.out.2.2.2)
      obtain ⟨q0, q1, q2, q3, q4, q5⟩ := cells6 ((hb.block (w.heap.size + 1) (by omega)).trans HM.out.2.1)
      by_cases hlt : k < ln + 1 - ln'
      · obtain hn0 | ⟨b, off, rfl⟩ := ha
        · omega
        have hkm : k + ln' ≤ ln := by omega
        have hcal := fun wr hb => hcall k wr hkm hb b off rfl
        clear hcall
        have hki : (k : Int) + (ln' : Int) ≤ (ln : Int) := by omega
        have hkc : (k : Int) + (ln' : Int) ≤ (lc : Int) := by omega
        have hkd : (k : Int) ≤ (k : Int) + (ln' : Int) := by omega
        have hk0 : (0 : Int) ≤ (k : Int) + (ln' : Int) := by omega
        have hkt : ((k : Int) + (ln' : Int)).toNat = k + ln' := by omega
        have hkw : IntKind.i64.wrap ((k : Int) + (ln' : Int)) = (k : Int) + (ln' : Int) := IntWalk.i64_in _ (by omega)
        go_wp2_with fail
        go_still_tail 11, (by kernel_rfl)
        change wpList _ _ _ _ _ wr.drew
        have hbd : Below w.heap.size w wr.drew := hbw.drew
        have hownd := Lib.hid (ownsRow_keep HOW.out ((Below.refl _ wr).drew))
        have hbld := hb.drew
        have hszd : w.heap.size + 3 ≤ wr.drew.heap.size := hszr
        generalize wr.drew = w2 at hbd hownd hbld hszd ⊢
        clear p0 p1 p2 p3 p4 p5 q0 q1 q2 q3 q4 q5 hb hbw hszr hlz hlz0 HOW hkw hkt hk0 hkd
        go_wp2_with fail
        refine (hcal _ hbd).mono ?_
        rintro e w3 ⟨r, rfl, hr, hb3⟩
        have hle3 : w.heap.size + 3 ≤ w3.heap.size := by have := hb3.size; omega
        have hown3 := Lib.hid (ownsRow_keep hownd.out hb3)
        have hbl3 := hbld.trans (hb3.mono (by omega))
        have HR := Lib.hid hr.out
        clear hb3 hr hcal hownd
        by_cases hr0 : r = 0
        · have hPk : P k := HR.out.1 hr0
          subst hr0
          have hnum : Hid (numsC (pick P (k + 1)) = numsC (pick P k) ++ c6 (numC k)) := Lib.hid (by
            rw [pick_yes hPk]; simp [numsC, c6, numC]; rfl)
          have hlen : Hid ((pick P (k + 1)).length = n' + 1) := Lib.hid (by
            rw [pick_yes hPk, HN.out]; simp)
          clear hPk
          have hnm := num_any k (by omega) w3
          obtain ⟨X, hX⟩ : ∃ X, X = numC k := ⟨_, rfl⟩
          rw [← hX] at hnum hnm
          have HX := Lib.hid hX
          clear hX
          go_wp2_with fail
          refine hnm.mono ?_
          rintro e w4 ⟨rfl, hb4⟩
          have hown4 := Lib.hid (ownsRow_keep hown3.out hb4)
          have hbl4 := hbl3.trans (hb4.mono (by omega))
          have hle4 : w.heap.size + 3 ≤ w4.heap.size := by have := hb4.size; omega
          clear hb4
          go_wp2_with (first
            | (at_builtin; refine wpList_append_own _ rfl (.tmp 100) (.tmp 103) 23 rfl (w.heap.size + 3) 26 i0 _ 6 104 Tryz.underlying23 hi0 hz0 hz1 hz2 rfl (by decide) (.slice a' n' c') n' (numsC (pick P k)) rfl (hown4.out.alloc _) ⟨w4.heap.size, 0, none⟩ 1 1 (c6 X) rfl rfl (cells_new _ (c6 X) 26 _ rfl) (c6_one X) (by unfold maxLen; omega) (by omega) (by simp; omega) ?_; intro v' w9 hown' hgrow _; obtain ⟨a9, c9, rfl⟩ := ownsRow_slice hown'; have hbl9 := (hbl4.alloc hle4 _).grown hgrow (by simp; omega) (fun j ej => (hown4.out.lt j ej).1); have hown9 := Lib.hid hown'; clear hown' hgrow)
            | fail)
          go_roundw
          case rel => first | exact ⟨k + 1, n' + 1, c9, a9, by omega, by go_num, rfl, hlen.out.symm, hnum.out ▸ hown9.out, hbl9⟩ | ((repeat apply Exists.intro); exact ⟨⟨k + 1, n' + 1, c9, a9, by omega, by go_num, rfl, hlen.out.symm, hnum.out ▸ hown9.out, hbl9⟩, by try rfl⟩)
          case measure => simp [intOf]; omega
        · have h0' : (r == 0) = false := by simpa using hr0
          have hPk : ¬ P k := fun h => hr0 (HR.out.2 h)
          have hpk : Hid (pick P (k + 1) = pick P k) := Lib.hid (pick_no hPk)
          clear hPk hr0
          go_wp2_with fail
          go_roundw
          case rel => first | exact ⟨k + 1, n', c', a', by omega, by go_num, rfl, by rw [hpk.out]; exact HN.out, by rw [hpk.out]; exact hown3.out, hbl3⟩ | ((repeat apply Exists.intro); exact ⟨⟨k + 1, n', c', a', by omega, by go_num, rfl, by rw [hpk.out]; exact HN.out, by rw [hpk.out]; exact hown3.out, hbl3⟩, by try rfl⟩)
          case measure => simp [intOf]; omega
      · obtain hkk : k = ln + 1 - ln' := by omega
        have hki : ¬ (k : Int) + (ln' : Int) ≤ (ln : Int) := by omega
        subst hkk
        have hcal := array_any a' n' c' wr
        obtain ⟨X, hX⟩ : ∃ X, X = listC a' n' c' := ⟨_, rfl⟩
        rw [← hX] at hcal
        have HX := Lib.hid hX
        clear hX
        go_wp2_with fail
        refine hcal.mono ?_
        rintro e w4 ⟨rfl, hb4⟩
        have m5 := (hb4.block (w.heap.size + 2) (by omega)).trans ((hb.block (w.heap.size + 2) (by omega)).trans HM.out.2.2.1)
        have ho5 := Lib.hid (ownsRow_keep HOW.out hb4)
        have hbw5 := Lib.hid (hbw.trans (hb4.mono hbw.size))
        clear hb4 hb p0 p1 p2 p3 p4 p5 q0 q1 q2 q3 q4 q5
        obtain ⟨z0, z1, z2, z3, z4, z5⟩ := cells6 m5
        have z6 := cell_of_block m5
        have y0 := (z6 0).2
        have y1 := (z6 1).2
        have y2 := (z6 2).2
        have y3 := (z6 3).2
        have y4 := (z6 4).2
        have y5 := (z6 5).2
        have HM5 := Lib.hid m5
        clear m5 z6
        go_wp2_with fail
        obtain ⟨hs6, hb6, ho6⟩ := sets6 (m := 1) (.int .i64 X.kind) (.int .i64 X.half) (.string X.text) (.slice X.la X.ln X.lc) (.slice X.ka X.kn X.kc) (.slice X.va X.vn X.vc) HM5.out hbw5.out (by omega) (Or.inr ⟨by omega, ho5.out⟩)
        have ee : w.heap.size + 1 + 1 = w.heap.size + 2 := by omega
        rw [ee]
        generalize ((((((w4.setCell _ _).setCell _ _).setCell _ _).setCell _ _).setCell _ _).setCell _ _) = w9 at hs6 ho6 hb6 ⊢
        obtain ⟨x0, x1, x2, x3, x4, x5⟩ := cells6 hs6
        rw [← HP.out]
        refine bodyPost_ret (v := .tuple #[X.val, .int .i64 0]) ?_ rfl ⟨X, 0, rfl, hb6, Or.inr (Or.inr ⟨rfl, _, a', n', c', HOO.out hm1, HX.out, HN.out, ownsRow_base (ho6.resolve_left (by decide)) (by omega)⟩)⟩
        rw [results_cell_tmp rfl]
        go_simp
end Go.Proofs.YtaockngppbeanaaGreatDoor
