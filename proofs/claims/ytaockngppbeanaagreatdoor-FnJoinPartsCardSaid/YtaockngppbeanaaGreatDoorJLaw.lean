/- laws.FnJoinParts answers true. Condition: two lists of texts that lie in memory; laws.zzFits2 and laws.fits answer as the theorem's premises say (JAny serves them). -/
import Derived.Test.YtaockngppbeanaaGreatDoorJoinBits
import Derived.Test.YtaockngppbeanaaGreatDoorJoinPlain
import Derived.Test.YtaockngppbeanaaGreatDoorForkAny
import Derived.Test.YtaockngppbeanaaGreatDoorZzFits
import Derived.Test.YtaockngppbeanaaGreatDoorFits
import Derived.Deep.RegionHeld3
import Derived.Deep.DrawnRows
namespace Go.Proofs.YtaockngppbeanaaGreatDoor
open Go.RowKit
attribute [local go_sem ↓] Go.wp_at_zero Go.wp_at_succ

set_option maxRecDepth 100000 in
set_option maxHeartbeats 1000000 in
theorem zz2_len (a : Option Addr) (n c : Nat) (B : Nat) (S : Nat → ByteArray) (w : World) (hn : n ≤ 9223372036854775807) (hr : Row1 w B a n fun i => .string (S i)) (hs : ∀ i, i < n → (S i).size ≤ 140737488351232) :
    Calls Tryz.prog 10 #[.slice a n c] w (RB w fun r => r = true → n ≤ 2147483647) := by
  by_cases h : n ≤ 2147483647
  · have := zz2_any a n c B S w hn hr hs
    exact this.mono fun e w' ⟨r, he, _, hb⟩ => ⟨r, he, Lib.hid (fun _ => h), hb⟩
  · have hgt : (2147483647 : Int) < (n : Int) := by omega
    clear hr hs
    go_enter Tryz.func10, Tryz.ntmps10
    go_wp2_with fail
    go_ret
    exact ⟨_, rfl, Lib.hid (fun h => by cases h), Below.refl _ _⟩

theorem take_snoc (L : List ByteArray) (k : Nat) (h : k < L.length) : textsC (L.take (k + 1)) = textsC (L.take k) ++ c6 (textC (L.getD k ByteArray.empty)) := by
  have e : L.take (k + 1) = L.take k ++ [L.getD k ByteArray.empty] := by
    rw [List.take_add_one, List.getElem?_eq_getElem h, List.getD_eq_getElem?_getD, List.getElem?_eq_getElem h]; rfl
  rw [e, textsC_append]
  simp [textsC]

theorem own_some {w : World} {base n c : Nat} {a : Option Addr} {xs : List Value} (h : w.ownsRow base 26 6 (.slice a n c) n xs) (hn : 0 < n) : ∃ g, a = some ⟨g, 0, none⟩ ∧ base ≤ g ∧ g < w.heap.size := by
  obtain ⟨h1, ⟨e, h2⟩ | ⟨g, cap, cur, e1, e2, e3, e4, e5, e6, e7⟩⟩ := h
  · omega
  · injection e1 with x1 _ _
    exact ⟨g, x1, e2, (Array.getElem?_eq_some_iff.1 e3).1⟩

/-- What holds between two rounds of a loop that makes a list of texts. -/
def LRel (w2 : World) (L : List ByteArray) (n : Nat) (v i : Value) (wr : World) : Prop :=
  ∃ (k : Nat) (a1 : Option Addr) (c1 : Nat), k ≤ n ∧ i = .int .i64 k ∧ v = .slice a1 k c1 ∧ wr.ownsRow w2.heap.size 26 6 (.slice a1 k c1) k (textsC (L.take k)) ∧ Below w2.heap.size w2 wr

/-- A text lies in a block of its own. -/
def Txt6 (w : World) (b : Nat) (s : ByteArray) : Prop := w.heap[b]? = some (.cells #[.int .i64 4, .int .i64 0, .string s, .slice none 0 0, .slice none 0 0, .slice none 0 0] 26)
theorem Txt6.lt {w : World} {b : Nat} {s : ByteArray} (h : Txt6 w b s) : b < w.heap.size := (Array.getElem?_eq_some_iff.1 h).1
theorem Txt6.keep {w w' : World} {b B : Nat} {s : ByteArray} (h : Txt6 w b s) (hb : Below B w w') (hB : b < B) : Txt6 w' b s := (hb.block b hB).trans h
/-- Three values, by number; in a row of their own. -/
def three (x y z : VC) (i : Nat) : VC := if i = 0 then x else if i = 1 then y else z
def row3 (x y z : VC) : Obj := .cells (c6 x ++ c6 y ++ c6 z).toArray 26
theorem row3_at (w : World) (x y z : VC) : ∀ i, i < 3 → At6 (w.alloc (row3 x y z)) w.heap.size (i * 6) (three x y z i) := by
  have c := cell_of_block (heap_alloc_new w (row3 x y z))
  intro i hi
  have hi2 : i = 0 ∨ i = 1 ∨ i = 2 := by omega
  rcases hi2 with rfl | rfl | rfl
  · exact ⟨(c 0).1, (c 1).1, (c 2).1, (c 3).1, (c 4).1, (c 5).1⟩
  · exact ⟨(c 6).1, (c 7).1, (c 8).1, (c 9).1, (c 10).1, (c 11).1⟩
  · exact ⟨(c 12).1, (c 13).1, (c 14).1, (c 15).1, (c 16).1, (c 17).1⟩

/-- What is at hand where the two lists are made. -/
def Made (w : World) (A B : List ByteArray) (g g' c c' : Nat) (w' : World) : Prop :=
  w'.ownsRow w.heap.size 26 6 (.slice (some ⟨g, 0, none⟩) A.length c) A.length (textsC A) ∧ w'.ownsRow w.heap.size 26 6 (.slice (some ⟨g', 0, none⟩) B.length c') B.length (textsC B) ∧ Below w.heap.size w w'

/-- Few and short. -/
def Small (A B : List ByteArray) (s : ByteArray) : Prop := (∀ x ∈ A, x.size ≤ 2000) ∧ A.length ≤ 400 ∧ (∀ x ∈ B, x.size ≤ 2000) ∧ B.length ≤ 400 ∧ s.size ≤ 2000

set_option maxRecDepth 100000 in
set_option maxHeartbeats 8000000 in
theorem law4_walk (A B : List ByteArray) (s : ByteArray) (a a' : Option Addr) (na nb c c' : Nat) (B0 : Nat) (w : World) (hB : B0 ≤ w.heap.size) (hna : na = A.length) (hnb : nb = B.length) (hn1 : na ≤ 9223372036854775807) (hn2 : nb ≤ 9223372036854775807)
    (r1 : Row1 w B0 a na fun i => .string (A.getD i ByteArray.empty)) (r2 : Row1 w B0 a' nb fun i => .string (B.getD i ByteArray.empty))
    (hz1 : ∀ wr, Below w.heap.size w wr → Calls Tryz.prog 10 #[.slice a na c] wr (RB wr fun r => r = true → na ≤ 2147483647)) (hz2 : ∀ wr, Below w.heap.size w wr → Calls Tryz.prog 10 #[.slice a' nb c'] wr (RB wr fun r => r = true → nb ≤ 2147483647))
    (hfit : ∀ (b c1 c2 g g' : Nat) (w2 wr : World), Below w.heap.size w wr → w2.heap.size ≤ wr.heap.size → wr.ownsRow w2.heap.size 26 6 (.slice (some ⟨g, 0, none⟩) na c1) na (textsC A) → wr.ownsRow w2.heap.size 26 6 (.slice (some ⟨g', 0, none⟩) nb c2) nb (textsC B) → (∀ i, i < 3 → At6 wr b (i * 6) (three (listC (some ⟨g, 0, none⟩) na c1) (listC (some ⟨g', 0, none⟩) nb c2) (textC s) i)) → b < wr.heap.size → Calls Tryz.prog 6 #[.slice (some ⟨b, 0, none⟩) 3 3] wr (RB wr fun r => r = true → Small A B s)) :
    Calls Tryz.prog 4 #[.slice a na c, .slice a' nb c', .string s] w (RB w fun r => r = true) := by
  obtain ⟨i0, hi0, hi1, hi2, hi3⟩ := info_parts info26
  have HA := Lib.hid hna
  have HB := Lib.hid hnb
  have H2 := Lib.hid hz2
  have HFIT := Lib.hid hfit
  clear hfit
  have hq := hz1 w (Below.refl _ _)
  clear hna hnb hz1 hz2
  go_enter Tryz.func4, Tryz.ntmps4
  go_wp2_with fail
  refine hq.mono ?_
  rintro e w1 ⟨r, rfl, hr, hb1⟩
  have HR := Lib.hid hr.out
  clear hr hq
  cases r with
  | false =>
    go_wp2_with fail
    go_ret
    exact ⟨_, rfl, Lib.hid rfl, hb1⟩
  | true =>
    have hna2 : na ≤ 2147483647 := HR.out rfl
    clear HR
    have hq := H2.out w1 hb1
    go_wp2_with fail
    refine hq.mono ?_
    rintro e w2 ⟨r, rfl, hr, hb2⟩
    have HR := Lib.hid hr.out
    have hbw := hb1.trans (hb2.mono hb1.size)
    clear hr hq hb2 hb1 H2
    cases r with
    | false =>
      go_wp2_with fail
      go_ret
      exact ⟨_, rfl, Lib.hid rfl, hbw⟩
    | true =>
      have hnb2 : nb ≤ 2147483647 := HR.out rfl
      clear HR
      by_cases hs : (2147483647 : Int) < (s.size : Int)
      · go_wp2_with fail
        go_ret
        exact ⟨_, rfl, Lib.hid rfl, hbw⟩
      by_cases h0 : na = 0
      · have hn0 : ((na : Int) == 0) = true := by simp; omega
        clear h0
        go_wp2_with fail
        go_ret
        exact ⟨_, rfl, Lib.hid rfl, hbw⟩
      have hn0 : ((na : Int) == 0) = false := by simp; omega
      by_cases h1 : nb = 0
      · have hm0 : ((nb : Int) == 0) = true := by simp; omega
        clear h1 h0
        go_wp2_with fail
        go_ret
        exact ⟨_, rfl, Lib.hid rfl, hbw⟩
      have hm0 : ((nb : Int) == 0) = false := by simp; omega
      have hp1 : 0 < na := by omega
      have hp2 : 0 < nb := by omega
      clear h0 h1
      go_wp2_with fail
      go_loopw [7, 40] (fun v i wr => LRel w2 A na v i wr) (fun _ i _ => na - (intOf i).toNat)
      case atStart => exact ⟨0, none, 0, Nat.zero_le _, rfl, rfl, World.ownsRow_nil _ _ _ _, Below.refl _ _⟩
      case round =>
        obtain ⟨k, a1, c1, hk, rfl, rfl, hown, hb⟩ := hrel
        have HOW := Lib.hid hown
        clear hown
        have hsz : w2.heap.size ≤ wr.heap.size := hb.size
        by_cases hlt : k < na
        · rcases r1 with r1 | ⟨b, off, ha, hlb, r1⟩
          · omega
          have c0 : wr.cell? ⟨b, off + k, none⟩ = some (.string (A.getD k ByteArray.empty)) := ((hbw.trans (hb.mono hbw.size)).cell (p := ⟨b, off + k, none⟩) (by show b < _; omega)).trans (r1 k hlt)
          obtain ⟨x, hx⟩ : ∃ x, x = A.getD k ByteArray.empty := ⟨_, rfl⟩
          rw [← hx] at c0
          have hnum : Hid (textsC (A.take (k + 1)) = textsC (A.take k) ++ c6 (textC x)) := Lib.hid (by rw [take_snoc A k (by rw [← HA.out]; exact hlt), hx])
          clear hx
          go_wp2_with (first
            | (at_builtin; refine wpList_append_own _ rfl (.tmp 44) (.tmp 47) 23 rfl w2.heap.size 26 i0 _ 6 104 Tryz.underlying23 hi0 hi1 hi2 hi3 rfl (by decide) (.slice a1 k c1) k (textsC (A.take k)) rfl (HOW.out.alloc _) ⟨wr.heap.size, 0, none⟩ 1 1 (c6 (textC x)) rfl rfl (cells_new _ (c6 (textC x)) 26 _ rfl) (c6_one (textC x)) (by unfold maxLen; omega) (by omega) (by simp; omega) ?_; intro v' w9 hown' hgrow _; obtain ⟨a9, c9, rfl⟩ := ownsRow_slice hown'; have hbl9 := (hb.alloc hsz _).grown hgrow (by simp; omega) (fun j ej => (HOW.out.lt j ej).1); have hown9 := Lib.hid hown'; clear hown' hgrow)
            | fail)
          go_roundw
          case rel =>
            have hrel : LRel w2 A na (.slice a9 (k + 1) c9) (.int .i64 ((k : Int) + 1)) w9 := ⟨k + 1, a9, c9, by omega, by go_num, rfl, hnum.out ▸ hown9.out, hbl9⟩
            first | exact hrel | ((repeat apply Exists.intro); exact ⟨hrel, rfl, rfl, rfl⟩)
          case measure => simp [intOf]; omega
        · obtain rfl : k = na := by omega
          obtain ⟨g, rfl, hg1, hg2⟩ := own_some HOW.out hp1
          have HOL : Hid (wr.ownsRow w2.heap.size 26 6 (.slice (some ⟨g, 0, none⟩) k c1) k (textsC A)) := Lib.hid (by
            have := HOW.out
            have e : A.take k = A := by rw [HA.out, List.take_length]
            rw [e] at this
            exact this)
          have hbw3 := hbw.trans (hb.mono hbw.size)
          have hb3 := hb
          obtain ⟨w3, hw3⟩ : ∃ v, v = wr := ⟨_, rfl⟩
          rw [← hw3] at HOL hbw3 hb3 hg2 hsz
          have HW3 := Lib.hid hw3
          clear hw3 HOW hb
          go_wp2_with fail
          rw [← HW3.out]
          clear HW3
          go_loopw [8, 52] (fun v i wr => LRel w3 B nb v i wr) (fun _ i _ => nb - (intOf i).toNat)
          case atStart => exact ⟨0, none, 0, Nat.zero_le _, rfl, rfl, World.ownsRow_nil _ _ _ _, Below.refl _ _⟩
          case round =>
            obtain ⟨q, a2, c2, hk2, rfl, rfl, hown, hb⟩ := hrel
            have HOW := Lib.hid hown
            clear hown
            have hsz2 : w3.heap.size ≤ wr.heap.size := hb.size
            by_cases hlt : q < nb
            · rcases r2 with r2 | ⟨b, off, ha, hlb, r2⟩
              · omega
              have c0 : wr.cell? ⟨b, off + q, none⟩ = some (.string (B.getD q ByteArray.empty)) := ((hbw3.trans (hb.mono hbw3.size)).cell (p := ⟨b, off + q, none⟩) (by show b < _; omega)).trans (r2 q hlt)
              obtain ⟨x, hx⟩ : ∃ x, x = B.getD q ByteArray.empty := ⟨_, rfl⟩
              rw [← hx] at c0
              have hnum : Hid (textsC (B.take (q + 1)) = textsC (B.take q) ++ c6 (textC x)) := Lib.hid (by rw [take_snoc B q (by rw [← HB.out]; exact hlt), hx])
              clear hx
              go_wp2_with (first
                | (at_builtin; refine wpList_append_own _ rfl (.tmp 56) (.tmp 59) 23 rfl w3.heap.size 26 i0 _ 6 104 Tryz.underlying23 hi0 hi1 hi2 hi3 rfl (by decide) (.slice a2 q c2) q (textsC (B.take q)) rfl (HOW.out.alloc _) ⟨wr.heap.size, 0, none⟩ 1 1 (c6 (textC x)) rfl rfl (cells_new _ (c6 (textC x)) 26 _ rfl) (c6_one (textC x)) (by unfold maxLen; omega) (by omega) (by simp; omega) ?_; intro v' w9 hown' hgrow _; obtain ⟨a9, c9, rfl⟩ := ownsRow_slice hown'; have hbl9 := (hb.alloc hsz2 _).grown hgrow (by simp; omega) (fun j ej => (HOW.out.lt j ej).1); have hown9 := Lib.hid hown'; clear hown' hgrow)
                | fail)
              go_roundw
              case rel =>
                have hrel : LRel w3 B nb (.slice a9 (q + 1) c9) (.int .i64 ((q : Int) + 1)) w9 := ⟨q + 1, a9, c9, by omega, by go_num, rfl, hnum.out ▸ hown9.out, hbl9⟩
                first | exact hrel | ((repeat apply Exists.intro); exact ⟨hrel, rfl, rfl, rfl⟩)
              case measure => simp [intOf]; omega
            · obtain rfl : q = nb := by omega
              obtain ⟨g', rfl, hg3, hg4⟩ := own_some HOW.out hp2
              have HOM : Hid (wr.ownsRow w2.heap.size 26 6 (.slice (some ⟨g', 0, none⟩) q c2) q (textsC B)) := Lib.hid (by
                have := ownsRow_base HOW.out hsz
                have e : B.take q = B := by rw [HB.out, List.take_length]
                rw [e] at this
                exact this)
              have HOL4 := Lib.hid (ownsRow_keep HOL.out hb)
              have hbw4 := hbw3.trans (hb.mono hbw3.size)
              clear HOW HOL hbw3 hb3 hb hg2 hg3 hsz hsz2 hbw
              go_wp2_with fail
              have m5 : Txt6 (wr.alloc (.cells #[.int .i64 4, .int .i64 0, .string s, .slice none 0 0, .slice none 0 0, .slice none 0 0] 26)) wr.heap.size s := heap_alloc_new wr _
              have hb5 : Below wr.heap.size wr (wr.alloc (.cells #[.int .i64 4, .int .i64 0, .string s, .slice none 0 0, .slice none 0 0, .slice none 0 0] 26)) := (Below.refl _ _).alloc (Nat.le_refl _) _
              have M5 := Lib.hid m5
              have B5 := Lib.hid (hbw4.trans (hb5.mono hbw4.size))
              have HOL5 := Lib.hid (ownsRow_keep HOL4.out hb5)
              have HOM5 := Lib.hid (ownsRow_keep HOM.out hb5)
              have hg5 : g < (wr.alloc (.cells #[.int .i64 4, .int .i64 0, .string s, .slice none 0 0, .slice none 0 0, .slice none 0 0] 26)).heap.size := by have := (HOL5.out.lt g rfl).2; exact this
              clear m5 hb5 hbw4 HOL4 HOM
              generalize (wr.alloc _) = w5 at M5 B5 HOL5 HOM5 hg5 ⊢
              obtain ⟨b5, hb5⟩ : ∃ b, b = wr.heap.size := ⟨_, rfl⟩
              rw [← hb5] at M5 ⊢
              clear hb5 hg4
              obtain ⟨p0, p1, p2, p3, p4, p5⟩ := cells6 M5.out
              have tok1 : True := trivial
              have tok2 : True := trivial
              go_region_held3 (fun w' => w'.cell? ⟨b5, 0, none⟩ = some (.int .i64 4) ∧ w'.cell? ⟨b5, 1, none⟩ = some (.int .i64 0) ∧ w'.cell? ⟨b5, 2, none⟩ = some (.string s) ∧ w'.cell? ⟨b5, 3, none⟩ = some (.slice none 0 0) ∧ w'.cell? ⟨b5, 4, none⟩ = some (.slice none 0 0) ∧ w'.cell? ⟨b5, 5, none⟩ = some (.slice none 0 0))
                (first | (with_reducible exact ⟨g0, g1, g2, g3, g4, g5⟩) | (with_reducible exact ⟨i0, i1, i2, i3, i4, i5⟩) | (with_reducible exact ⟨j0, j1, j2, j3, j4, j5⟩) | go_keep) (first | (go_at_call 11; have _t := tok1; refine (arr_any _ _ _ _).mono ?_; rintro e w6 ⟨rfl, hb6⟩; have H6 := Lib.hid (((Below.refl w5.heap.size w5).drew).trans hb6); obtain ⟨g0, g1, g2, g3, g4, g5⟩ := cells6 (M5.out.keep H6.out M5.out.lt); clear tok1 hb6) | (go_at_call 11; have _t := tok2; refine (arr_any _ _ _ _).mono ?_; rintro e w7 ⟨rfl, hb7⟩; have H7 := Lib.hid (H6.out.trans (hb7.mono H6.out.size)); obtain ⟨i0, i1, i2, i3, i4, i5⟩ := cells6 (M5.out.keep H7.out M5.out.lt); clear tok2 hb7) | (go_at_call 6; have H7a := Lib.hid (H7.out.alloc H7.out.size (row3 (listC (some ⟨g, 0, none⟩) k c1) (listC (some ⟨g', 0, none⟩) q c2) (textC s))); refine (HFIT.out w7.heap.size c1 c2 g g' w2 (w7.alloc (row3 (listC (some ⟨g, 0, none⟩) k c1) (listC (some ⟨g', 0, none⟩) q c2) (textC s))) (B5.out.trans (H7a.out.mono B5.out.size)) (Nat.le_trans hg1 (Nat.le_trans (Nat.le_of_lt hg5) H7a.out.size)) (ownsRow_keep HOL5.out H7a.out) (ownsRow_keep HOM5.out H7a.out) (row3_at w7 _ _ _) (by simp)).mono ?_; rintro e w8 ⟨r, rfl, hr, hb8⟩; have H8 := Lib.hid (H7a.out.trans (hb8.mono H7a.out.size)); obtain ⟨j0, j1, j2, j3, j4, j5⟩ := cells6 (M5.out.keep H8.out M5.out.lt); have HRR := Lib.hid hr.out; clear hb8 hr H7a))
              have HBW := Lib.hid (B5.out.trans (H8.out.mono B5.out.size))
              clear H6 H7
              clear i0 i1 i2 i3 i4 i5 g0 g1 g2 g3 g4 g5
              cases r with
              | false =>
                go_wp2_with fail
                go_ret
                exact ⟨_, rfl, Lib.hid rfl, HBW.out⟩
              | true =>
                have hR := Lib.hid (HRR.out rfl)
                clear HRR
                go_wp2_with fail
                obtain rfl := HA.out
                obtain rfl := HB.out
                obtain ⟨hsA, hlA, hsB, hlB, hss⟩ := hR.out
                have hsC : ∀ x ∈ A ++ B, x.size ≤ 2000 := fun x hx => (List.mem_append.1 hx).elim (hsA x) (hsB x)
                have HJ := Lib.hid (joinB_append ⟨s, hss⟩ A B hsA hsB hsC hp1 hp2)
                have hjz := Lib.hid (joinB_size ⟨s, hss⟩ (fT (A ++ B) hsC) (A ++ B).length (by rw [List.length_append]; omega))
                obtain ⟨rA, hrA⟩ : ∃ r, r = joinB ⟨s, hss⟩ (fT A hsA) A.length := ⟨_, rfl⟩
                obtain ⟨rB, hrB⟩ : ∃ r, r = joinB ⟨s, hss⟩ (fT B hsB) B.length := ⟨_, rfl⟩
                obtain ⟨rC, hrC⟩ : ∃ r, r = joinB ⟨s, hss⟩ (fT (A ++ B) hsC) (A ++ B).length := ⟨_, rfl⟩
                rw [← hrA, ← hrB, ← hrC] at HJ
                rw [← hrC] at hjz
                have hza : rA.size ≤ 140737488351232 := by rw [hrA]; exact joinB_size _ _ _ (by omega)
                have hzb : rB.size ≤ 140737488351232 := by rw [hrB]; exact joinB_size _ _ _ (by omega)
                refine fork_any rfl (by kernel_rfl) (by kernel_rfl) rfl rfl rfl rfl rfl rfl rfl rfl rfl rfl rfl rfl rfl rfl rfl rfl rfl rfl rfl rfl ⟨w8, b5, g, g', c1, c2, A, B, s, rA, rB, rC⟩ w2.heap.size w2.heap.size hsA hsB hsC hss hlA hlB hp1 hp2 hrA hrB hrC rfl (M5.out.keep H8.out M5.out.lt) (ownsRow_keep HOL5.out H8.out) (ownsRow_keep HOM5.out H8.out) rfl rfl rfl rfl rfl rfl ?_
                rintro ⟨tmps, defers⟩ w9 ⟨fz, fd, f2, fb, p, q, r, f14, f15, f16, m14, m15, m16⟩
                obtain rfl : defers = [] := fd
                obtain ⟨x0, x1, x2, x3, x4, x5, x6, x7, x8, x9, x10, x11, x12, x13, x14, x15, x16, x17, x18, x19, x20, x21, x22, x23, x24, x25, x26, x27, x28, x29, x30, x31, x32, x33, x34, x35, x36, x37, x38, x39, x40, x41, x42, x43, x44, x45, x46, x47, x48, x49, x50, x51, x52, x53, x54, x55, x56, x57, x58, x59, x60, x61, x62, x63, x64, x65, x66, x67, x68, x69, x70, x71, x72, x73, x74, x75, x76, x77, x78, x79, x80, x81, x82, x83, x84, x85, x86, x87, x88, x89, x90, x91, x92, x93, x94, x95, x96, x97, x98, x99, x100, x101, x102, x103, x104, x105, x106, x107, rfl⟩ := arr108 fz
                clear fz
                obtain rfl : x2 = _ := Option.some.inj f2
                obtain rfl : x14 = _ := Option.some.inj f14
                obtain rfl : x15 = _ := Option.some.inj f15
                obtain rfl : x16 = _ := Option.some.inj f16
                clear f2 f14 f15 f16
                have HB9 := Lib.hid (HBW.out.trans (fb.mono HBW.out.size))
                clear hrA hrB hrC fb
                have kp := cell_of_block (show w9.heap[p]? = some (.cells #[.int .i64 4, .int .i64 0, .string rA, .slice none 0 0, .slice none 0 0, .slice none 0 0, .int .i64 0] 34) from m14)
                have kp2 := kp 2
                have kp6 := kp 6
                simp only [List.getElem?_toArray, List.getElem?_cons_succ, List.getElem?_cons_zero] at kp2 kp6
                clear kp m14
                have kq := cell_of_block (show w9.heap[q]? = some (.cells #[.int .i64 4, .int .i64 0, .string rB, .slice none 0 0, .slice none 0 0, .slice none 0 0, .int .i64 0] 34) from m15)
                have kq2 := kq 2
                have kq6 := kq 6
                simp only [List.getElem?_toArray, List.getElem?_cons_succ, List.getElem?_cons_zero] at kq2 kq6
                clear kq m15
                have kr := cell_of_block (show w9.heap[r]? = some (.cells #[.int .i64 4, .int .i64 0, .string rC, .slice none 0 0, .slice none 0 0, .slice none 0 0, .int .i64 0] 34) from m16)
                have kr0 := kr 0
                have kr1 := kr 1
                have kr2 := kr 2
                have kr3 := kr 3
                have kr4 := kr 4
                have kr5 := kr 5
                have kr6 := kr 6
                simp only [List.getElem?_toArray, List.getElem?_cons_succ, List.getElem?_cons_zero] at kr0 kr1 kr2 kr3 kr4 kr5 kr6
                clear kr m16
                have hgv := Lib.hid (given_text rC (rA ++ s ++ rB) hjz.out HJ.out)
                go_wp2_with (first | (go_at_call 14; refine (hgv.out _).mono ?_; rintro e w10 ⟨rr, rfl, hr, hb10⟩; obtain rfl := hr.out; have H10 := Lib.hid hb10; clear hb10 hr) | fail)
                go_ret
                exact ⟨_, rfl, Lib.hid rfl, HB9.out.trans (H10.out.mono HB9.out.size)⟩
end Go.Proofs.YtaockngppbeanaaGreatDoor
