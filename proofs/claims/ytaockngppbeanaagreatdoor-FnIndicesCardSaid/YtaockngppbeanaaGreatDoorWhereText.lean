/- spec.where at two texts: the places where the one stands in the other. Condition: texts of 2000 bytes at most. -/
import Derived.Test.YtaockngppbeanaaGreatDoorArray
namespace Go.Proofs.YtaockngppbeanaaGreatDoor
open Go.RowKit

/-- Six cells of a block set anew. -/
theorem sets6 {w w4 : World} {b base n m : Nat} {v : Value} {xs : List Value} {u0 u1 u2 u3 u4 u5 : Value} (v0 v1 v2 v3 v4 v5 : Value) (hm : w4.heap[b]? = some (.cells #[u0, u1, u2, u3, u4, u5] 26)) (hb : Below w.heap.size w w4) (hB : w.heap.size ≤ b) (ho : m = 0 ∨ (b < base ∧ w4.ownsRow base 26 6 v n xs)) :
    ((((((w4.setCell ⟨b, 0, none⟩ v0).setCell ⟨b, 1, none⟩ v1).setCell ⟨b, 2, none⟩ v2).setCell ⟨b, 3, none⟩ v3).setCell ⟨b, 4, none⟩ v4).setCell ⟨b, 5, none⟩ v5).heap[b]? = some (.cells #[v0, v1, v2, v3, v4, v5] 26) ∧
    Below w.heap.size w ((((((w4.setCell ⟨b, 0, none⟩ v0).setCell ⟨b, 1, none⟩ v1).setCell ⟨b, 2, none⟩ v2).setCell ⟨b, 3, none⟩ v3).setCell ⟨b, 4, none⟩ v4).setCell ⟨b, 5, none⟩ v5) ∧
    (m = 0 ∨ ((((((w4.setCell ⟨b, 0, none⟩ v0).setCell ⟨b, 1, none⟩ v1).setCell ⟨b, 2, none⟩ v2).setCell ⟨b, 3, none⟩ v3).setCell ⟨b, 4, none⟩ v4).setCell ⟨b, 5, none⟩ v5).ownsRow base 26 6 v n xs) := by
  refine ⟨set6 v0 v1 v2 v3 v4 v5 hm, (((((hb.setCell (p := ⟨b, 0, none⟩) hB v0).setCell (p := ⟨b, 1, none⟩) hB v1).setCell (p := ⟨b, 2, none⟩) hB v2).setCell (p := ⟨b, 3, none⟩) hB v3).setCell (p := ⟨b, 4, none⟩) hB v4).setCell (p := ⟨b, 5, none⟩) hB v5, ?_⟩
  rcases ho with h | ⟨hlt, h⟩
  · exact Or.inl h
  · exact Or.inr (ownsRow_set (ownsRow_set (ownsRow_set (ownsRow_set (ownsRow_set (ownsRow_set h _ _ hlt) _ _ hlt) _ _ hlt) _ _ hlt) _ _ hlt) _ _ hlt)

def muW (n : Nat) (i : Int) : Nat := if i < 0 then 0 else n + 1 - i.toNat
theorem muW_lt {n m : Nat} {r : Int} (hm : m ≤ n) (h : r = -1 ∨ ∃ q : Nat, r = q ∧ m + 1 ≤ q) : muW n r < muW n m := by
  have e : muW n (m : Int) = n + 1 - m := by unfold muW; rw [if_neg (by omega)]; rfl
  rw [e]
  rcases h with rfl | ⟨q, rfl, hq⟩
  · have : muW n (-1) = 0 := rfl
    omega
  · have : muW n (q : Int) = n + 1 - q := by unfold muW; rw [if_neg (by omega)]; rfl
    omega

set_option maxRecDepth 100000 in
set_option maxHeartbeats 8000000 in
theorem where_text (x y : VC) (hx : x.kind = 4) (hy : y.kind = 4) (hs : x.text.size ≤ 2000) (ht : y.text.size ≤ 2000) (w : World) (N : Prop) (Q : List Nat → Prop) (ho : Ascii x.text → 0 < y.text.size → Q (pick (Stands x.text y.text) (x.text.size + 1))) :
    Calls Tryz.prog 45 #[.string nmI, x.val, y.val] w (RWh w N Q) := by
  obtain ⟨k1, f1, s, la, ln, lc, ka, kn, kc, va, vn, vc⟩ := x
  obtain ⟨k2, f2, t, la', ln', lc', ka', kn', kc', va', vn', vc'⟩ := y
  simp only at hx hy hs ht ho ⊢
  subst hx hy
  have HOO := Lib.hid ho
  clear ho
  obtain ⟨POST, hP⟩ : ∃ P, RWh w N Q = P := ⟨_, rfl⟩
  rw [hP]
  have HP := Lib.hid hP
  clear hP
  obtain ⟨i0, hi0, hz0, hz1, hz2⟩ := info_parts info26
  by_cases he : (t.toList == ([] : List UInt8)) = true
  · go_enter Tryz.func45, Tryz.ntmps45
    go_wp2_with fail
    rw [← HP.out]
    refine bodyPost_ret (v := .tuple #[zeroC.val, .int .i64 2]) ?_ rfl ⟨zeroC, 2, rfl, (((Below.refl _ _).alloc (Nat.le_refl _) _).alloc (by simp) _).alloc (by simp; omega) _, Or.inl rfl⟩
    rw [results_cell_tmp rfl]
    go_simp
    simp [zeroC]
    rfl
  · have he' : (t.toList == ([] : List UInt8)) = false := by simpa using he
    have hts : 0 < t.size := by
      rcases Nat.eq_zero_or_pos t.size with h | h
      · exact absurd (by rw [empty_of_size h, ByteArray.toList_eq]; rfl) he
      · exact h
    clear he
    go_enter Tryz.func45, Tryz.ntmps45
    go_wp2_with fail
    refine (ascii_any s hs _).mono ?_
    rintro e w1 ⟨r, rfl, hr, hb1⟩
    have hbw : Below w.heap.size w w1 := ((((Below.refl _ _).alloc (Nat.le_refl _) _).alloc (by simp) _).alloc (by simp; omega) _).trans (hb1.mono (by simp; omega))
    have m0 : w1.heap[w.heap.size]? = some (.cells #[.int .i64 4, .int .i64 f1, .string s, .slice la ln lc, .slice ka kn kc, .slice va vn vc] 26) :=
      (hb1.block _ (by simp; omega)).trans ((heap_alloc_old _ _ (by simp; omega)).trans ((heap_alloc_old _ _ (by simp)).trans (heap_alloc_new _ _)))
    have m1 : w1.heap[w.heap.size + 1]? = some (.cells #[.int .i64 4, .int .i64 f2, .string t, .slice la' ln' lc', .slice ka' kn' kc', .slice va' vn' vc'] 26) := by
      refine (hb1.block _ (by simp)).trans ((heap_alloc_old _ _ (by simp)).trans ?_)
      have := heap_alloc_new (w.alloc (.cells #[.int .i64 4, .int .i64 f1, .string s, .slice la ln lc, .slice ka kn kc, .slice va vn vc] 26)) (.cells #[.int .i64 4, .int .i64 f2, .string t, .slice la' ln' lc', .slice ka' kn' kc', .slice va' vn' vc'] 26)
      simpa using this
    have m2 : w1.heap[w.heap.size + 2]? = some (.cells #[.int .i64 0, .int .i64 0, .string ⟨#[]⟩, .slice none 0 0, .slice none 0 0, .slice none 0 0] 26) := by
      refine (hb1.block _ (by simp)).trans ?_
      have := heap_alloc_new ((w.alloc (.cells #[.int .i64 4, .int .i64 f1, .string s, .slice la ln lc, .slice ka kn kc, .slice va vn vc] 26)).alloc (.cells #[.int .i64 4, .int .i64 f2, .string t, .slice la' ln' lc', .slice ka' kn' kc', .slice va' vn' vc'] 26)) (.cells #[.int .i64 0, .int .i64 0, .string ⟨#[]⟩, .slice none 0 0, .slice none 0 0, .slice none 0 0] 26)
      simpa using this
    have hsz : w.heap.size + 2 < w1.heap.size := (Array.getElem?_eq_some_iff.1 m2).1
    clear hb1
    have HR := Lib.hid hr.out
    clear hr
    obtain ⟨p0, p1, p2, p3, p4, p5⟩ := cells6 m0
    obtain ⟨q0, q1, q2, q3, q4, q5⟩ := cells6 m1
    have M := Lib.hid (And.intro m0 (And.intro m1 m2))
    clear m0 m1
    cases r with
    | false =>
      obtain ⟨z0, z1, z2, z3, z4, z5⟩ := cells6 m2
      have z6 := cell_of_block m2
      have y0 := (z6 0).2
      have y1 := (z6 1).2
      have y2 := (z6 2).2
      have y3 := (z6 3).2
      have y4 := (z6 4).2
      have y5 := (z6 5).2
      have HM := Lib.hid m2
      clear m2 z6
      go_wp2_with fail
      obtain ⟨hs6, hb6, _⟩ := sets6 (m := 0) (base := 0) (n := 0) (v := .int .i64 0) (xs := []) (.int .i64 0) (.int .i64 0) (.string ⟨#[]⟩) (.slice none 0 0) (.slice none 0 0) (.slice none 0 0) HM.out hbw (by omega) (Or.inl rfl)
      have ee : w.heap.size + 1 + 1 = w.heap.size + 2 := by omega
      rw [ee]
      generalize ((((((w1.setCell _ _).setCell _ _).setCell _ _).setCell _ _).setCell _ _).setCell _ _) = w9 at hs6 hb6 ⊢
      obtain ⟨x0, x1, x2, x3, x4, x5⟩ := cells6 hs6
      rw [← HP.out]
      refine bodyPost_ret (v := .tuple #[zeroC.val, .int .i64 2]) ?_ rfl ⟨zeroC, 2, rfl, hb6, Or.inl rfl⟩
      rw [results_cell_tmp rfl]
      go_simp
      simp [zeroC]
      rfl
    | true =>
      clear m2
      go_wp2_with fail
      refine (find_any s t hs ht 0 (by omega) w1).mono ?_
      rintro e w2 ⟨rfl, r, rfl, hr⟩
      go_wp2_with fail
      go_loopw [8, 9] (fun v i wr => ∃ (k n' c' : Nat) (a' : Option Addr) (r : Int), k ≤ s.size + 1 ∧ i = .int .i64 r ∧ v = .slice a' n' c' ∧ n' = (pick (Stands s t) k).length ∧ wr.ownsRow w1.heap.size 26 6 (.slice a' n' c') n' (numsC (pick (Stands s t) k)) ∧ Below w1.heap.size w1 wr ∧
          Hid ((r = -1 ∧ ∀ m, k ≤ m → ¬ Stands s t m) ∨ ∃ m : Nat, r = m ∧ k ≤ m ∧ Stands s t m ∧ ∀ q, k ≤ q → q < m → ¬ Stands s t q)) (fun _ i _ => muW s.size (intOf i))
      case atStart =>
        exact ⟨0, 0, 0, none, r, by omega, rfl, rfl, rfl, World.ownsRow_nil _ _ _ _, Below.refl _ _, hr⟩
      case round =>
        obtain ⟨k, n', c', a', r, hk, rfl, rfl, hn', hown, hbl, hr⟩ := hrel
        have hszr : w.heap.size + 2 < wr.heap.size := by have := hbl.size; omega
        have hown2 := hown
        have HOW := Lib.hid hown2
        have HN := Lib.hid hn'
        have hn2 : n' ≤ s.size + 1 := by rw [hn']; exact Nat.le_trans (pick_len _ _) hk
        clear hown hown2 hn'
        have hn3 : n' ≤ 2001 := by omega
        rcases hr.out with ⟨rfl, hno⟩ | ⟨m, rfl, hkm, hst, hbt⟩
        · have HNO := Lib.hid hno
          clear hno hr
          have hbx := Lib.hid hbl
          have hpk : Hid (n' = (pick (Stands s t) (s.size + 1)).length ∧ wr.ownsRow w1.heap.size 26 6 (.slice a' n' c') n' (numsC (pick (Stands s t) (s.size + 1)))) := Lib.hid (by
            have e : pick (Stands s t) (s.size + 1) = pick (Stands s t) k := by
              have := pick_none (P := Stands s t) (k := k) (s.size + 1 - k) (fun q h1 _ => HNO.out q h1)
              rwa [Nat.add_sub_cancel' hk] at this
            rw [e]
            exact ⟨HN.out, HOW.out⟩)
          have hcal := array_any a' n' c' wr
          obtain ⟨X, hX⟩ : ∃ X, X = listC a' n' c' := ⟨_, rfl⟩
          rw [← hX] at hcal
          have HX := Lib.hid hX
          clear hX
          go_wp2_with fail
          refine hcal.mono ?_
          rintro e w4 ⟨rfl, hb4⟩
          have hb5 := hbx.out.trans (hb4.mono hbx.out.size)
          have m5 := (hb5.block (w.heap.size + 2) (by omega)).trans M.out.2.2
          have ho5 := Lib.hid (ownsRow_keep hpk.out.2 hb4)
          have hbw5 := Lib.hid (hbw.trans (hb5.mono hbw.size))
          clear hb4 hb5 hbl
          obtain ⟨z0, z1, z2, z3, z4, z5⟩ := cells6 m5
          have z6 := cell_of_block m5
          have y0 := (z6 0).2
          have y1 := (z6 1).2
          have y2 := (z6 2).2
          have y3 := (z6 3).2
          have y4 := (z6 4).2
          have y5 := (z6 5).2
          have HM := Lib.hid m5
          clear m5 z6
          go_wp2_with fail
          obtain ⟨hs6, hb6, ho6⟩ := sets6 (m := 1) (.int .i64 X.kind) (.int .i64 X.half) (.string X.text) (.slice X.la X.ln X.lc) (.slice X.ka X.kn X.kc) (.slice X.va X.vn X.vc) HM.out hbw5.out (by omega) (Or.inr ⟨by omega, ho5.out⟩)
          have ee : w.heap.size + 1 + 1 = w.heap.size + 2 := by omega
          rw [ee]
          generalize ((((((w4.setCell _ _).setCell _ _).setCell _ _).setCell _ _).setCell _ _).setCell _ _) = w9 at hs6 ho6 hb6 ⊢
          obtain ⟨x0, x1, x2, x3, x4, x5⟩ := cells6 hs6
          rw [← HP.out]
          refine bodyPost_ret (v := .tuple #[X.val, .int .i64 0]) ?_ rfl ⟨X, 0, rfl, hb6, Or.inr (Or.inr ⟨rfl, _, a', n', c', HOO.out (HR.out trivial) hts, HX.out, hpk.out.1, ownsRow_base (ho6.resolve_left (by decide)) hbw.size⟩)⟩
          rw [results_cell_tmp rfl]
          go_simp
        · have hms : m ≤ s.size := by have := hst.1; omega
          have HS := Lib.hid (And.intro hst hbt)
          clear hst hbt hr
          have hnum : Hid (numsC (pick (Stands s t) (m + 1)) = numsC (pick (Stands s t) k) ++ c6 (numC m)) := Lib.hid (by
            rw [pick_next hkm HS.out.2 HS.out.1]; simp [numsC, c6, numC]; rfl)
          have hlen : Hid ((pick (Stands s t) (m + 1)).length = n' + 1) := Lib.hid (by
            rw [pick_next hkm HS.out.2 HS.out.1, HN.out]; simp)
          have hnm := num_any m (by omega) wr
          obtain ⟨X, hX⟩ : ∃ X, X = numC m := ⟨_, rfl⟩
          rw [← hX] at hnum hnm
          have HX := Lib.hid hX
          clear hX
          go_wp2_with fail
          refine hnm.mono ?_
          rintro e w3 ⟨rfl, hb3⟩
          have hown3 := Lib.hid (ownsRow_keep HOW.out hb3)
          have hbl3 := hbl.trans (hb3.mono hbl.size)
          have hsz3 : w.heap.size + 2 < w3.heap.size := by have := hb3.size; omega
          have hle3 : w1.heap.size ≤ w3.heap.size := hbl3.size
          go_wp2_with (first
            | (at_builtin; refine wpList_append_own _ rfl (.tmp 57) (.tmp 60) 23 rfl w1.heap.size 26 i0 _ 6 104 Tryz.underlying23 hi0 hz0 hz1 hz2 rfl (by decide) (.slice a' n' c') n' (numsC (pick (Stands s t) k)) rfl (hown3.out.alloc _) ⟨w3.heap.size, 0, none⟩ 1 1 (c6 X) rfl rfl (cells_new _ (c6 X) 26 _ rfl) (c6_one X) (by unfold maxLen; omega) (by omega) (by simp; omega) ?_; intro v' w9 hown' hgrow _; obtain ⟨a9, c9, rfl⟩ := ownsRow_slice hown'; have hbl9 := (hbl3.alloc hle3 _).grown hgrow (by simp; omega) (fun j ej => (hown3.out.lt j ej).1); have e92 := (hbl9.cell (p := ⟨w.heap.size, 2, none⟩) (by show w.heap.size < _; omega)).trans p2; have g92 := (hbl9.cell (p := ⟨w.heap.size + 1, 2, none⟩) (by show w.heap.size + 1 < _; omega)).trans q2; have hown9 := Lib.hid hown'; clear hown' hgrow)
            | fail)
          refine (find_any s t hs ht (m + 1) (by omega) w9).mono ?_
          rintro e w4 ⟨rfl, r2, rfl, hr2⟩
          have HR2 := Lib.hid hr2
          clear hr2 e92 g92
          go_wp2_with fail
          go_roundw
          case rel => first | exact ⟨m + 1, n' + 1, c9, a9, r2, by omega, rfl, rfl, hlen.out.symm, hnum.out ▸ hown9.out, hbl9, HR2.out⟩ | ((repeat apply Exists.intro); exact ⟨⟨m + 1, n' + 1, c9, a9, r2, by omega, rfl, rfl, hlen.out.symm, hnum.out ▸ hown9.out, hbl9, HR2.out⟩, rfl⟩)
          case measure =>
            refine muW_lt hms ?_
            rcases HR2.out.out with ⟨h, _⟩ | ⟨m2, h, hm2, _⟩
            · exact Or.inl h
            · exact Or.inr ⟨m2, h, hm2⟩
end Go.Proofs.YtaockngppbeanaaGreatDoor
