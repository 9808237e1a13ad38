/- laws.FnIndices answers true, whatever two values it is handed. Condition: utf8's two tables lie as the library's text lays them. -/
import Derived.Test.YtaockngppbeanaaGreatDoorCall
import Derived.Test.YtaockngppbeanaaGreatDoorZzFits
import Derived.Test.YtaockngppbeanaaGreatDoorFits
import Derived.Deep.RegionHeld3
import Derived.Deep.DrawnRows
namespace Go.Proofs.YtaockngppbeanaaGreatDoor
open Go.RowKit
attribute [local go_sem ↓] Go.wp_at_zero Go.wp_at_succ

theorem ownsRow_cap {w : World} {base n c : Nat} {a : Option Addr} {xs : List Value} (h : w.ownsRow base 26 6 (.slice a n c) n xs) : c ≤ 9223372036854775807 := by
  obtain ⟨h1, ⟨e, h2⟩ | ⟨g, cap, cur, e1, e2, e3, e4, e5, e6, e7⟩⟩ := h
  · injection e with _ _ e; omega
  · injection e1 with _ _ e
    subst e
    exact Nat.le_trans e5 (by decide)

theorem told_list (L : List Nat) (hL : ∀ k ∈ L, k ≤ 2000) (hl : L.length ≤ 2000) (a a' : Option Addr) (n n' c c' b1 b2 : Nat) (Y : VC) (hY : Y = listC a' n' c') (w : World) (hn : n = L.length) (hn' : n' = L.length) (h1 : w.ownsRow b1 26 6 (.slice a n c) n (numsC L)) (h2 : w.ownsRow b2 26 6 (.slice a' n' c') n' (numsC L)) :
    Calls Tryz.prog 8 #[.agg #[.int .i64 5, .int .i64 0, .string ⟨#[]⟩, .slice a n c, .slice none 0 0, .slice none 0 0, .int .i64 0], Y.val, .int .i64 0] w (RB w fun r => r = true) := by
  subst hY
  exact told_fine (listC a n c) (listC a' n' c') (listJ L) (listJ L) w.heap.size w (VRep.nums h1 hn hL hl (Nat.le_refl _) (ownsRow_cap h1)) (VRep.nums h2 hn' hL hl (Nat.le_refl _) (ownsRow_cap h2)) (Nat.le_refl _) (Tidy.nums L hL) (Tidy.nums L hL) rfl

/-- What impl.Indices answers where it raises, and where it does not. -/
def RIE (w : World) (e : Ending) (w' : World) : Prop := e = .returned (.agg #[.int .i64 0, .int .i64 0, .string ⟨#[]⟩, .slice none 0 0, .slice none 0 0, .slice none 0 0, .int .i64 1]) ∧ Below w.heap.size w w'
def RIF (w : World) (L : List Nat) (e : Ending) (w' : World) : Prop := ∃ a n c, e = .returned (.agg #[.int .i64 5, .int .i64 0, .string ⟨#[]⟩, .slice a n c, .slice none 0 0, .slice none 0 0, .int .i64 0]) ∧ n = L.length ∧ w'.ownsRow w.heap.size 26 6 (.slice a n c) n (numsC L) ∧ Below w.heap.size w w'
theorem RA2.err {w : World} {o : Option (List Nat)} {e : Ending} {w' : World} (h : RA2 w o e w') (ho : o = none) : RIE w e w' := by
  subst ho
  obtain ⟨k, q, a, n, c, rfl, ⟨rfl, rfl, rfl, rfl, rfl⟩, hb⟩ := h
  exact ⟨rfl, hb⟩
theorem RA2.fine {w : World} {o : Option (List Nat)} {L : List Nat} {e : Ending} {w' : World} (h : RA2 w o e w') (ho : o = some L) : RIF w L e w' := by
  subst ho
  obtain ⟨k, q, a, n, c, rfl, ⟨rfl, rfl, hn, ho⟩, hb⟩ := h
  exact ⟨a, n, c, rfl, hn, ho, hb⟩

/-- The two boxes that the law lays. -/
def boxA (w : World) (x y : VC) : World := (boxV w x).alloc (.cells #[.int .i64 y.kind, .int .i64 y.half, .string y.text, .slice y.la y.ln y.lc, .slice y.ka y.kn y.kc, .slice y.va y.vn y.vc] 26)
theorem boxA_size (w : World) (x y : VC) : (boxA w x y).heap.size = w.heap.size + 2 := by simp [boxA]
theorem boxA_below (w : World) (x y : VC) : Below w.heap.size w (boxA w x y) := ((Below.refl _ _).alloc (Nat.le_refl _) _).alloc (by simp) _
/-- A value lies in a block of its own. -/
def In6 (w : World) (b : Nat) (x : VC) : Prop := w.heap[b]? = some (.cells #[.int .i64 x.kind, .int .i64 x.half, .string x.text, .slice x.la x.ln x.lc, .slice x.ka x.kn x.kc, .slice x.va x.vn x.vc] 26)
theorem boxA_0 (w : World) (x y : VC) : In6 (boxA w x y) w.heap.size x := (heap_alloc_old _ _ (by simp)).trans (heap_alloc_new _ _)
theorem boxA_1 (w : World) (x y : VC) : In6 (boxA w x y) (w.heap.size + 1) y := by
  have := heap_alloc_new (boxV w x) (.cells #[.int .i64 y.kind, .int .i64 y.half, .string y.text, .slice y.la y.ln y.lc, .slice y.ka y.kn y.kc, .slice y.va y.vn y.vc] 26)
  simpa [In6, boxA] using this
theorem In6.lt {w : World} {b : Nat} {x : VC} (h : In6 w b x) : b < w.heap.size := (Array.getElem?_eq_some_iff.1 h).1
theorem In6.keep {w w' : World} {b B : Nat} {x : VC} (h : In6 w b x) (hb : Below B w w') (hB : b < B) : In6 w' b x := (hb.block b hB).trans h
theorem In6.at6 {w : World} {b : Nat} {x : VC} (h : In6 w b x) : At6 w b 0 x := by
  obtain ⟨p0, p1, p2, p3, p4, p5⟩ := cells6 h
  exact ⟨p0, by simpa using p1, by simpa using p2, by simpa using p3, by simpa using p4, by simpa using p5⟩
theorem right_list {j : JV} (h : Right j) : j.list.length ≤ 400 := by
  obtain ⟨k, h, t, ls, ks, vs, k0, k6, z1, z2, z3, z4, z5, b1, b2, b3, st, sl, sv, sk, ord, rr1, rr3⟩ := h
  exact sl
/-- Two values, by number. -/
def two (x y : VC) (i : Nat) : VC := if i = 0 then x else y

/-- Two values in a row of their own. -/
def row2 (x y : VC) : Obj := .cells #[.int .i64 x.kind, .int .i64 x.half, .string x.text, .slice x.la x.ln x.lc, .slice x.ka x.kn x.kc, .slice x.va x.vn x.vc, .int .i64 y.kind, .int .i64 y.half, .string y.text, .slice y.la y.ln y.lc, .slice y.ka y.kn y.kc, .slice y.va y.vn y.vc] 26
theorem row2_at (w : World) (x y : VC) : ∀ i, i < 2 → At6 (w.alloc (row2 x y)) w.heap.size (i * 6) (two x y i) := by
  have c := cell_of_block (heap_alloc_new w (row2 x y))
  intro i hi
  have hi2 : i = 0 ∨ i = 1 := by omega
  rcases hi2 with rfl | rfl
  · exact ⟨(c 0).1, (c 1).1, (c 2).1, (c 3).1, (c 4).1, (c 5).1⟩
  · exact ⟨(c 6).1, (c 7).1, (c 8).1, (c 9).1, (c 10).1, (c 11).1⟩

set_option maxRecDepth 100000 in
set_option maxHeartbeats 4000000 in
theorem law_walk (x y : VC) (R : Prop) (N : Prop) (Q : List Nat → Prop) (w : World)
    (hz1 : ∀ wr, Below w.heap.size w wr → Calls Tryz.prog 5 #[x.val] wr (RB wr fun _ => True))
    (hz2 : ∀ wr, Below w.heap.size w wr → Calls Tryz.prog 5 #[y.val] wr (RB wr fun _ => True))
    (hfit : ∀ (b : Nat) wr, Below w.heap.size w wr → (∀ i, i < 2 → At6 wr b (i * 6) (two x y i)) → b < wr.heap.size → Calls Tryz.prog 6 #[.slice (some ⟨b, 0, none⟩) 2 2] wr (RB wr fun r => r = true → R))
    (hcall : R → ∀ (b : Nat) wr, Below w.heap.size w wr → At6 wr b 0 y → b < wr.heap.size → Calls Tryz.prog 7 #[.string nmI, x.val, .slice (some ⟨b, 0, none⟩) 1 1] wr (RWh wr N Q))
    (herr : R → N → ∀ wr, Below w.heap.size w wr → Calls Tryz.prog 9 #[x.val, y.val] wr (RIE wr))
    (hfine : R → ∀ L, Q L → (∀ k ∈ L, k ≤ 2000) ∧ L.length ≤ 2000 ∧ ∀ wr, Below w.heap.size w wr → Calls Tryz.prog 9 #[x.val, y.val] wr (RIF wr L)) :
    Calls Tryz.prog 3 #[x.val, y.val] w (RB w fun r => r = true) := by
  obtain ⟨bx, hbx⟩ : ∃ b, b = boxA w x y := ⟨_, rfl⟩
  have X0 := boxA_size w x y
  have X1 := boxA_below w x y
  have M0 := boxA_0 w x y
  have M1 := boxA_1 w x y
  rw [← hbx] at X0 X1 M0 M1
  have hX1 := X1
  have hq := hz1 bx X1
  clear hz1
  have HM := Lib.hid (And.intro X0 (And.intro M0 M1))
  have HBX := Lib.hid hbx
  have HF := Lib.hid hfit
  have HC := Lib.hid hcall
  have HE := Lib.hid herr
  have HG := Lib.hid hfine
  have HZ := Lib.hid hz2
  clear X0 X1 M0 M1 hbx hfit hcall herr hfine hz2
  go_enter Tryz.func3, Tryz.ntmps3
  go_wp2_with fail
  rw [HBX.out] at hq
  refine hq.mono ?_
  rintro e w1 ⟨r, rfl, _, hb1⟩
  change Below (boxA _ _ _).heap.size (boxA _ _ _) w1 at hb1
  rw [← HBX.out] at hb1
  have hbw1 := hX1.trans (hb1.mono hX1.size)
  have m0 := HM.out.2.1.keep hb1 HM.out.2.1.lt
  have m1 := HM.out.2.2.keep hb1 HM.out.2.2.lt
  have hz1 : w.heap.size + 1 < w1.heap.size := m1.lt
  clear hb1 hq hX1 HM
  cases r with
  | false =>
    go_wp2_with fail
    go_ret
    exact ⟨_, rfl, Lib.hid rfl, hbw1⟩
  | true =>
    obtain ⟨q0, q1, q2, q3, q4, q5⟩ := cells6 m1
    have HM1 := Lib.hid (And.intro m0 m1)
    clear m0 m1
    have hq := HZ.out w1 hbw1
    go_wp2_with fail
    refine hq.mono ?_
    rintro e w2 ⟨r, rfl, _, hb2⟩
    have hbw2 := hbw1.trans (hb2.mono hbw1.size)
    have m0 := HM1.out.1.keep hb2 HM1.out.1.lt
    have m1 := HM1.out.2.keep hb2 HM1.out.2.lt
    have hz2 : w.heap.size + 1 < w2.heap.size := m1.lt
    clear hb2 hbw1 hz1 q0 q1 q2 q3 q4 q5 hq HM1 HZ
    cases r with
    | false =>
      go_wp2_with fail
      go_ret
      exact ⟨_, rfl, Lib.hid rfl, hbw2⟩
    | true =>
      obtain ⟨p0, p1, p2, p3, p4, p5⟩ := cells6 m0
      obtain ⟨q0, q1, q2, q3, q4, q5⟩ := cells6 m1
      have HM2 := Lib.hid (And.intro m0 m1)
      clear m0 m1
      go_wp2_with fail
      have hbw2' : Below w.heap.size w (w2.alloc (row2 x y)) := hbw2.alloc hbw2.size _
      have hfq := HF.out w2.heap.size _ hbw2' (row2_at w2 x y) (by simp)
      refine hfq.mono ?_
      rintro e w3 ⟨r, rfl, hr, hb3⟩
      have hbz : Below w2.heap.size w2 w3 := ((Below.refl _ _).alloc (Nat.le_refl _) _).trans (hb3.mono (by simp))
      have hbw3 := hbw2.trans (hbz.mono hbw2.size)
      have m0 := HM2.out.1.keep hbz HM2.out.1.lt
      have m1 := HM2.out.2.keep hbz HM2.out.2.lt
      have hz3 : w.heap.size + 1 < w3.heap.size := m1.lt
      have HR := Lib.hid hr.out
      clear hb3 hbz hbw2 hbw2' hfq hr hz2 p0 p1 p2 p3 p4 p5 q0 q1 q2 q3 q4 q5 HM2 HF
      cases r with
      | false =>
        go_wp2_with fail
        go_ret
        exact ⟨_, rfl, Lib.hid rfl, hbw3⟩
      | true =>
        have hRR := HR.out rfl
        have HRR := Lib.hid hRR
        clear hRR HR
        obtain ⟨p0, p1, p2, p3, p4, p5⟩ := cells6 m0
        obtain ⟨q0, q1, q2, q3, q4, q5⟩ := cells6 m1
        have HM3 := Lib.hid (And.intro m0 m1)
        clear m0 m1
        go_wp2_with fail
        have hbw3' : Below w.heap.size w (w3.alloc (.cells #[.int .i64 y.kind, .int .i64 y.half, .string y.text, .slice y.la y.ln y.lc, .slice y.ka y.kn y.kc, .slice y.va y.vn y.vc] 26)) := hbw3.alloc hbw3.size _
        have hcq := HC.out HRR.out w3.heap.size _ hbw3' (In6.at6 (heap_alloc_new w3 _)) (by simp)
        refine hcq.mono ?_
        rintro e w4 ⟨Y, h, rfl, hb4, hres⟩
        have hbz : Below w3.heap.size w3 w4 := ((Below.refl _ _).alloc (Nat.le_refl _) _).trans (hb4.mono (by simp))
        have hbw4 := hbw3.trans (hbz.mono hbw3.size)
        have m0 := HM3.out.1.keep hbz HM3.out.1.lt
        have m1 := HM3.out.2.keep hbz HM3.out.2.lt
        have hz4 : w.heap.size + 1 < w4.heap.size := m1.lt
        clear hb4 hbz hbw3 hbw3' hcq hz3 p0 p1 p2 p3 p4 p5 q0 q1 q2 q3 q4 q5 HM3 HC
        rcases hres with rfl | ⟨rfl, hN⟩ | ⟨rfl, L, a, n, c, hQ, hY, hn, ho⟩
        · go_wp2_with fail
          go_ret
          exact ⟨_, rfl, Lib.hid rfl, hbw4.alloc hbw4.size _⟩
        · have HI := Lib.hid (HE.out HRR.out hN)
          clear hN HE
          go_wp2_with fail
          have m2 : In6 (w4.alloc (.cells #[.int .i64 Y.kind, .int .i64 Y.half, .string Y.text, .slice Y.la Y.ln Y.lc, .slice Y.ka Y.kn Y.kc, .slice Y.va Y.vn Y.vc] 26)) w4.heap.size Y := heap_alloc_new w4 _
          have hb5 : Below w4.heap.size w4 (w4.alloc (.cells #[.int .i64 Y.kind, .int .i64 Y.half, .string Y.text, .slice Y.la Y.ln Y.lc, .slice Y.ka Y.kn Y.kc, .slice Y.va Y.vn Y.vc] 26)) := (Below.refl _ _).alloc (Nat.le_refl _) _
          have M5 := Lib.hid (And.intro (m0.keep hb5 m0.lt) (And.intro (m1.keep hb5 m1.lt) m2))
          have B5 := Lib.hid (hbw4.trans (hb5.mono hbw4.size))
          skip
          clear m0 m1 m2 hb5 hbw4
          generalize (w4.alloc _) = w5 at M5 B5 ⊢
          obtain ⟨p0, p1, p2, p3, p4, p5⟩ := cells6 M5.out.1
          obtain ⟨q0, q1, q2, q3, q4, q5⟩ := cells6 M5.out.2.1
          obtain ⟨r0, r1, r2, r3, r4, r5⟩ := cells6 M5.out.2.2
          go_region_held3 (fun w' => w'.cell? ⟨w.heap.size, 0, none⟩ = some (.int .i64 x.kind) ∧ w'.cell? ⟨w.heap.size, 1, none⟩ = some (.int .i64 x.half) ∧ w'.cell? ⟨w.heap.size, 2, none⟩ = some (.string x.text) ∧ w'.cell? ⟨w.heap.size, 3, none⟩ = some (.slice x.la x.ln x.lc) ∧ w'.cell? ⟨w.heap.size, 4, none⟩ = some (.slice x.ka x.kn x.kc) ∧ w'.cell? ⟨w.heap.size, 5, none⟩ = some (.slice x.va x.vn x.vc) ∧ w'.cell? ⟨w.heap.size + 1, 0, none⟩ = some (.int .i64 y.kind) ∧ w'.cell? ⟨w.heap.size + 1, 1, none⟩ = some (.int .i64 y.half) ∧ w'.cell? ⟨w.heap.size + 1, 2, none⟩ = some (.string y.text) ∧ w'.cell? ⟨w.heap.size + 1, 3, none⟩ = some (.slice y.la y.ln y.lc) ∧ w'.cell? ⟨w.heap.size + 1, 4, none⟩ = some (.slice y.ka y.kn y.kc) ∧ w'.cell? ⟨w.heap.size + 1, 5, none⟩ = some (.slice y.va y.vn y.vc) ∧ w'.cell? ⟨w4.heap.size, 0, none⟩ = some (.int .i64 Y.kind) ∧ w'.cell? ⟨w4.heap.size, 1, none⟩ = some (.int .i64 Y.half) ∧ w'.cell? ⟨w4.heap.size, 2, none⟩ = some (.string Y.text) ∧ w'.cell? ⟨w4.heap.size, 3, none⟩ = some (.slice Y.la Y.ln Y.lc) ∧ w'.cell? ⟨w4.heap.size, 4, none⟩ = some (.slice Y.ka Y.kn Y.kc) ∧ w'.cell? ⟨w4.heap.size, 5, none⟩ = some (.slice Y.va Y.vn Y.vc))
            (first | (with_reducible exact ⟨g0, g1, g2, g3, g4, g5, i0, i1, i2, i3, i4, i5, j0, j1, j2, j3, j4, j5⟩) | (with_reducible exact ⟨k0, k1, k2, k3, k4, k5, l0, l1, l2, l3, l4, l5, m0, m1, m2, m3, m4, m5⟩) | go_keep) (first | (go_at_call 9; refine (HI.out _ B5.out.drew).mono ?_; rintro e w6 ⟨rfl, hb6⟩; have hbq := ((Below.refl w5.heap.size w5).drew).trans hb6; skip; obtain ⟨g0, g1, g2, g3, g4, g5⟩ := cells6 (M5.out.1.keep hbq M5.out.1.lt); obtain ⟨i0, i1, i2, i3, i4, i5⟩ := cells6 (M5.out.2.1.keep hbq M5.out.2.1.lt); obtain ⟨j0, j1, j2, j3, j4, j5⟩ := cells6 (M5.out.2.2.keep hbq M5.out.2.2.lt); have M6 := Lib.hid (And.intro (M5.out.1.keep hbq M5.out.1.lt) (And.intro (M5.out.2.1.keep hbq M5.out.2.1.lt) (M5.out.2.2.keep hbq M5.out.2.2.lt))); have B6 := Lib.hid (B5.out.trans (hbq.mono B5.out.size)); clear hb6 hbq) | (go_at_call 8; refine (told_err _ _ _ _ _ _ _ _ ⟨_, _, _, rfl⟩ ⟨_, _, _, rfl⟩ ⟨_, _, _, rfl⟩).mono ?_; rintro e w7 ⟨r, rfl, hr, hb7⟩; obtain rfl := hr.out; obtain ⟨k0, k1, k2, k3, k4, k5⟩ := cells6 (M6.out.1.keep hb7 M6.out.1.lt); obtain ⟨l0, l1, l2, l3, l4, l5⟩ := cells6 (M6.out.2.1.keep hb7 M6.out.2.1.lt); obtain ⟨m0, m1, m2, m3, m4, m5⟩ := cells6 (M6.out.2.2.keep hb7 M6.out.2.2.lt); have B7 := Lib.hid (B6.out.trans (hb7.mono B6.out.size)); clear hb7))
          go_wp2_with fail
          go_ret
          exact ⟨_, rfl, Lib.hid rfl, B7.out⟩
        · obtain ⟨hL1, hL2, hI⟩ := HG.out HRR.out L hQ
          have HI := Lib.hid hI
          have HL := Lib.hid (And.intro hL1 hL2)
          have HY := Lib.hid hY
          have HN := Lib.hid hn
          have HOW := Lib.hid ho
          clear hI hL1 hL2 hQ HG hY hn ho
          go_wp2_with fail
          have m2 : In6 (w4.alloc (.cells #[.int .i64 Y.kind, .int .i64 Y.half, .string Y.text, .slice Y.la Y.ln Y.lc, .slice Y.ka Y.kn Y.kc, .slice Y.va Y.vn Y.vc] 26)) w4.heap.size Y := heap_alloc_new w4 _
          have hb5 : Below w4.heap.size w4 (w4.alloc (.cells #[.int .i64 Y.kind, .int .i64 Y.half, .string Y.text, .slice Y.la Y.ln Y.lc, .slice Y.ka Y.kn Y.kc, .slice Y.va Y.vn Y.vc] 26)) := (Below.refl _ _).alloc (Nat.le_refl _) _
          have M5 := Lib.hid (And.intro (m0.keep hb5 m0.lt) (And.intro (m1.keep hb5 m1.lt) m2))
          have B5 := Lib.hid (hbw4.trans (hb5.mono hbw4.size))
          have HO5 := Lib.hid (ownsRow_keep HOW.out hb5)
          clear m0 m1 m2 hb5 hbw4
          generalize (w4.alloc _) = w5 at M5 B5 HO5 ⊢
          obtain ⟨p0, p1, p2, p3, p4, p5⟩ := cells6 M5.out.1
          obtain ⟨q0, q1, q2, q3, q4, q5⟩ := cells6 M5.out.2.1
          obtain ⟨r0, r1, r2, r3, r4, r5⟩ := cells6 M5.out.2.2
          go_region_held3 (fun w' => w'.cell? ⟨w.heap.size, 0, none⟩ = some (.int .i64 x.kind) ∧ w'.cell? ⟨w.heap.size, 1, none⟩ = some (.int .i64 x.half) ∧ w'.cell? ⟨w.heap.size, 2, none⟩ = some (.string x.text) ∧ w'.cell? ⟨w.heap.size, 3, none⟩ = some (.slice x.la x.ln x.lc) ∧ w'.cell? ⟨w.heap.size, 4, none⟩ = some (.slice x.ka x.kn x.kc) ∧ w'.cell? ⟨w.heap.size, 5, none⟩ = some (.slice x.va x.vn x.vc) ∧ w'.cell? ⟨w.heap.size + 1, 0, none⟩ = some (.int .i64 y.kind) ∧ w'.cell? ⟨w.heap.size + 1, 1, none⟩ = some (.int .i64 y.half) ∧ w'.cell? ⟨w.heap.size + 1, 2, none⟩ = some (.string y.text) ∧ w'.cell? ⟨w.heap.size + 1, 3, none⟩ = some (.slice y.la y.ln y.lc) ∧ w'.cell? ⟨w.heap.size + 1, 4, none⟩ = some (.slice y.ka y.kn y.kc) ∧ w'.cell? ⟨w.heap.size + 1, 5, none⟩ = some (.slice y.va y.vn y.vc) ∧ w'.cell? ⟨w4.heap.size, 0, none⟩ = some (.int .i64 Y.kind) ∧ w'.cell? ⟨w4.heap.size, 1, none⟩ = some (.int .i64 Y.half) ∧ w'.cell? ⟨w4.heap.size, 2, none⟩ = some (.string Y.text) ∧ w'.cell? ⟨w4.heap.size, 3, none⟩ = some (.slice Y.la Y.ln Y.lc) ∧ w'.cell? ⟨w4.heap.size, 4, none⟩ = some (.slice Y.ka Y.kn Y.kc) ∧ w'.cell? ⟨w4.heap.size, 5, none⟩ = some (.slice Y.va Y.vn Y.vc))
            (first | (with_reducible exact ⟨g0, g1, g2, g3, g4, g5, i0, i1, i2, i3, i4, i5, j0, j1, j2, j3, j4, j5⟩) | (with_reducible exact ⟨k0, k1, k2, k3, k4, k5, l0, l1, l2, l3, l4, l5, m0, m1, m2, m3, m4, m5⟩) | go_keep) (first | (go_at_call 9; refine (HI.out _ B5.out.drew).mono ?_; rintro e w6 ⟨a1, n1, c1, rfl, hn1, ho1, hb6⟩; have hbq := ((Below.refl w5.heap.size w5).drew).trans hb6; have HO6 := Lib.hid (And.intro hn1 (And.intro ho1 (ownsRow_keep HO5.out hbq))); clear hn1 ho1; obtain ⟨g0, g1, g2, g3, g4, g5⟩ := cells6 (M5.out.1.keep hbq M5.out.1.lt); obtain ⟨i0, i1, i2, i3, i4, i5⟩ := cells6 (M5.out.2.1.keep hbq M5.out.2.1.lt); obtain ⟨j0, j1, j2, j3, j4, j5⟩ := cells6 (M5.out.2.2.keep hbq M5.out.2.2.lt); have M6 := Lib.hid (And.intro (M5.out.1.keep hbq M5.out.1.lt) (And.intro (M5.out.2.1.keep hbq M5.out.2.1.lt) (M5.out.2.2.keep hbq M5.out.2.2.lt))); have B6 := Lib.hid (B5.out.trans (hbq.mono B5.out.size)); clear hb6 hbq) | (go_at_call 8; refine (told_list L HL.out.1 HL.out.2 _ _ _ _ _ _ _ _ Y HY.out _ HO6.out.1 HN.out HO6.out.2.1 HO6.out.2.2).mono ?_; rintro e w7 ⟨r, rfl, hr, hb7⟩; obtain rfl := hr.out; obtain ⟨k0, k1, k2, k3, k4, k5⟩ := cells6 (M6.out.1.keep hb7 M6.out.1.lt); obtain ⟨l0, l1, l2, l3, l4, l5⟩ := cells6 (M6.out.2.1.keep hb7 M6.out.2.1.lt); obtain ⟨m0, m1, m2, m3, m4, m5⟩ := cells6 (M6.out.2.2.keep hb7 M6.out.2.2.lt); have B7 := Lib.hid (B6.out.trans (hb7.mono B6.out.size)); clear hb7))
          go_wp2_with fail
          go_ret
          exact ⟨_, rfl, Lib.hid rfl, B7.out⟩

theorem law_any (j1 j2 : JV) (x y : VC) (W : World) (h1 : VRep W W.heap.size x j1) (h2 : VRep W W.heap.size y j2) (hT : Lib.Utf8Tabs 0 1 W) (hs : 2 ≤ W.heap.size) :
    Calls Tryz.prog 3 #[x.val, y.val] W (RB W fun r => r = true) := by
  refine law_walk x y (Right j1 ∧ Right j2) (OkJ j1 j2 ∧ spots j1 j2 = none) (fun L => OkJ j1 j2 ∧ spots j1 j2 = some L) W (fun wr hb => ?_) (fun wr hb => ?_) (fun b wr hb hc hbl => ?_) (fun hR b wr hb hy hbl => ?_) (fun hR hN wr hb => ?_) (fun hR L hQ => ?_)
  · exact zz1_any j1 x W.heap.size wr (h1.keep hb (Nat.le_refl _)) hb.size
  · exact zz1_any j2 y W.heap.size wr (h2.keep hb (Nat.le_refl _)) hb.size
  · have hf := fits_any [j1, j2] (two x y) b 2 W.heap.size wr hc hbl (by simp) (fun i hi => by
      have hi2 : i = 0 ∨ i = 1 := by simp at hi; omega
      rcases hi2 with rfl | rfl
      · exact h1.keep hb (Nat.le_refl _)
      · exact h2.keep hb (Nat.le_refl _)) hb.size (Tabs.keep hT (L := W.heap.size) (Mods.of_below hb) hs) (Nat.le_trans hs hb.size)
    exact hf.mono fun e w' h => h.to fun r hr hrt => ⟨hr hrt 0 (by simp), hr hrt 1 (by simp)⟩
  · exact call_any j1 j2 x y b 1 W.heap.size wr (h1.keep hb (Nat.le_refl _)) (h2.keep hb (Nat.le_refl _)) hb.size hR.1 hR.2 hy hbl (by decide) (by decide)
  · exact (implIndices_any j1 j2 x y W.heap.size wr (h1.keep hb (Nat.le_refl _)) (h2.keep hb (Nat.le_refl _)) hb.size hR.1 hR.2 hN.1.1 hN.1.2.1 (right_list hR.1) (right_list hR.2) hN.1.2.2.1 hN.1.2.2.2 (spots_bound hR.1 hN.1)).mono fun e w' h => h.err hN.2
  · have hL := spots_bound hR.1 hQ.1
    refine ⟨(hL L hQ.2).1, (hL L hQ.2).2, fun wr hb => ?_⟩
    exact (implIndices_any j1 j2 x y W.heap.size wr (h1.keep hb (Nat.le_refl _)) (h2.keep hb (Nat.le_refl _)) hb.size hR.1 hR.2 hQ.1.1 hQ.1.2.1 (right_list hR.1) (right_list hR.2) hQ.1.2.2.1 hQ.1.2.2.2 hL).mono fun e w' h => h.fine hQ.2
end Go.Proofs.YtaockngppbeanaaGreatDoor
