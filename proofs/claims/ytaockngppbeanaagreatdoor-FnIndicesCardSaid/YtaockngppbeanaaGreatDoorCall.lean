/- spec.along and spec.Call at indices. Condition: two right values. -/
import Derived.Test.YtaockngppbeanaaGreatDoorWhereAny
import Derived.Test.YtaockngppbeanaaGreatDoorVague
import Derived.StillTailTactics
import Derived.Deep.RegionHeld3
import Derived.Deep.DrawnRows
namespace Go.Proofs.YtaockngppbeanaaGreatDoor
open Go.RowKit

attribute [local go_sem ↓] Go.wp_at_zero Go.wp_at_succ

/-- What the places' answer says of memory. -/
def RWp (B : Nat) (N : Prop) (Q : List Nat → Prop) (h : Int) (y : VC) (w' : World) : Prop :=
  h = 2 ∨ (h = 1 ∧ N) ∨ (h = 0 ∧ ∃ L a n c, Q L ∧ y = listC a n c ∧ n = L.length ∧ w'.ownsRow B 26 6 (.slice a n c) n (numsC L))
theorem RWp.to {B B2 : Nat} {N : Prop} {Q : List Nat → Prop} {h : Int} {y : VC} {w w' : World} (hr : RWp B N Q h y w) (hB : B2 ≤ B) (hw : ∀ v n xs, w.ownsRow B 26 6 v n xs → w'.ownsRow B 26 6 v n xs) : RWp B2 N Q h y w' := by
  rcases hr with h2 | h1 | ⟨h0, L, a, n, c, hq, hy, hn, ho⟩
  · exact Or.inl h2
  · exact Or.inr (Or.inl h1)
  · exact Or.inr (Or.inr ⟨h0, L, a, n, c, hq, hy, hn, ownsRow_base (hw _ _ _ ho) hB⟩)

/-- Six cells of a block set anew, and a row beside them. -/
theorem own6 {w4 : World} {b base : Nat} (v0 v1 v2 v3 v4 v5 : Value) (hlt : b < base) (v : Value) (n : Nat) (xs : List Value) (h : w4.ownsRow base 26 6 v n xs) :
    ((((((w4.setCell ⟨b, 0, none⟩ v0).setCell ⟨b, 1, none⟩ v1).setCell ⟨b, 2, none⟩ v2).setCell ⟨b, 3, none⟩ v3).setCell ⟨b, 4, none⟩ v4).setCell ⟨b, 5, none⟩ v5).ownsRow base 26 6 v n xs :=
  ownsRow_set (ownsRow_set (ownsRow_set (ownsRow_set (ownsRow_set (ownsRow_set h _ _ hlt) _ _ hlt) _ _ hlt) _ _ hlt) _ _ hlt) _ _ hlt

set_option maxRecDepth 100000 in
set_option maxHeartbeats 4000000 in
theorem along_any (x y : VC) (N : Prop) (Q : List Nat → Prop) (w : World) (hcall : ∀ wr, Below w.heap.size w wr → Calls Tryz.prog 45 #[.string nmI, x.val, y.val] wr (RWh wr N Q)) :
    Calls Tryz.prog 23 #[.string nmI, x.val, y.val] w (RWh w N Q) := by
  obtain ⟨bx, hbx⟩ : ∃ b, b = box3 w x y := ⟨_, rfl⟩
  have X0 := box3_size w x y
  have X1 := box3_below w x y
  have M2 := box3_2 w x y
  rw [← hbx] at X0 X1 M2
  have HM := Lib.hid (And.intro X0 M2)
  have hX1 := X1
  have hc := hcall bx X1
  clear X0 X1 M2 hcall
  have HBX := Lib.hid hbx
  obtain ⟨POST, hP⟩ : ∃ R, RWh w N Q = R := ⟨_, rfl⟩
  rw [hP]
  have HP := Lib.hid hP
  clear hP hbx
  obtain ⟨k1, f1, s, la, ln, lc, ka, kn, kc, va, vn, vc⟩ := x
  obtain ⟨k2, f2, t, la', ln', lc', ka', kn', kc', va', vn', vc'⟩ := y
  go_enter Tryz.func23, Tryz.ntmps23
  go_wp2_with fail
  rw [HBX.out] at hc
  refine hc.mono ?_
  rintro e w1 ⟨Y, h, rfl, hb1, hres⟩
  change Below (box3 _ _ _).heap.size (box3 _ _ _) w1 at hb1
  rw [← HBX.out] at hb1 hres
  have hX2 := HM.out.1
  have m5 := (hb1.block (w.heap.size + 2) (by omega)).trans HM.out.2
  have hbw := Lib.hid (hX1.trans (hb1.mono hX1.size))
  have hlt : w.heap.size + 2 < bx.heap.size := by omega
  have HR := Lib.hid hres
  clear hb1 hres hc hX2
  obtain ⟨z0, z1, z2, z3, z4, z5⟩ := cells6 m5
  have z6 := cell_of_block m5
  have y0 := (z6 0).2
  have y1 := (z6 1).2
  have y2 := (z6 2).2
  have y3 := (z6 3).2
  have y4 := (z6 4).2
  have y5 := (z6 5).2
  have HM5 := Lib.hid m5
  clear m5 z6
  go_wp2_with fail
  obtain ⟨hs6, hb6, _⟩ := sets6 (m := 0) (base := 0) (n := 0) (v := .int .i64 0) (xs := []) (.int .i64 Y.kind) (.int .i64 Y.half) (.string Y.text) (.slice Y.la Y.ln Y.lc) (.slice Y.ka Y.kn Y.kc) (.slice Y.va Y.vn Y.vc) HM5.out hbw.out (by omega) (Or.inl rfl)
  have ho6 := own6 (w4 := w1) (b := w.heap.size + 2) (base := bx.heap.size) (.int .i64 Y.kind) (.int .i64 Y.half) (.string Y.text) (.slice Y.la Y.ln Y.lc) (.slice Y.ka Y.kn Y.kc) (.slice Y.va Y.vn Y.vc) hlt
  have ee : w.heap.size + 1 + 1 = w.heap.size + 2 := by omega
  rw [ee]
  generalize ((((((w1.setCell _ _).setCell _ _).setCell _ _).setCell _ _).setCell _ _).setCell _ _) = w9 at hs6 ho6 hb6 ⊢
  obtain ⟨x0, x1, x2, x3, x4, x5⟩ := cells6 hs6
  rw [← HP.out]
  refine bodyPost_ret (v := .tuple #[Y.val, .int .i64 h]) ?_ rfl ⟨Y, h, rfl, hb6, RWp.to HR.out (by omega) ho6⟩
  rw [results_cell_tmp rfl]
  go_simp

/-- The two boxes that spec.Call lays. -/
def box2 (w : World) (x : VC) : World := (boxV w x).alloc (.cells #[.int .i64 0, .int .i64 0, .string ⟨#[]⟩, .slice none 0 0, .slice none 0 0, .slice none 0 0] 26)
theorem box2_size (w : World) (x : VC) : (box2 w x).heap.size = w.heap.size + 2 := by simp [box2]
theorem box2_below (w : World) (x : VC) : Below w.heap.size w (box2 w x) := ((Below.refl _ _).alloc (Nat.le_refl _) _).alloc (by simp) _
theorem box2_0 (w : World) (x : VC) : (box2 w x).heap[w.heap.size]? = some (.cells #[.int .i64 x.kind, .int .i64 x.half, .string x.text, .slice x.la x.ln x.lc, .slice x.ka x.kn x.kc, .slice x.va x.vn x.vc] 26) :=
  (heap_alloc_old _ _ (by simp)).trans (heap_alloc_new _ _)
theorem box2_1 (w : World) (x : VC) : (box2 w x).heap[w.heap.size + 1]? = some (.cells #[.int .i64 0, .int .i64 0, .string ⟨#[]⟩, .slice none 0 0, .slice none 0 0, .slice none 0 0] 26) := by
  have := heap_alloc_new (boxV w x) (.cells #[.int .i64 0, .int .i64 0, .string ⟨#[]⟩, .slice none 0 0, .slice none 0 0, .slice none 0 0] 26)
  simpa [box2] using this

/-- One value in a list of its own. -/
theorem VRep.one {w : World} {B b c : Nat} {y : VC} {j : JV} (h : VRep w B y j) (hy : At6 w b 0 y) (hb : b < B) (h1 : 1 ≤ c) (h2 : c ≤ 9223372036854775807) : VRep w B (listC (some ⟨b, 0, none⟩) 1 c) (JV.mk 5 0 ByteArray.empty [j] [] []) :=
  .mk (listC (some ⟨b, 0, none⟩) 1 c) [j] [] [] (fun _ => y) (fun _ => y) rfl rfl rfl (by simp [listC]) (by simp [listC]) (by simp [listC]) h1 (by simp [listC]) (by simp [listC]) h2 (by simp [listC]) (by simp [listC])
    (by simp [listC]) (by simp [listC]) (by simp [listC]) (fun i h => by simp at h) (Or.inr ⟨b, 0, rfl, hb, fun i hi => by
      have : i < 1 := hi
      have e : i = 0 := by omega
      subst e; exact hy⟩) (Or.inl rfl) (Or.inl rfl) (fun i hi => by
      have e : i = 0 := by simpa using hi
      subst e; exact h) (fun i h => by simp at h)
theorem Right.one {j : JV} (h : Right j) : Right (JV.mk 5 0 ByteArray.empty [j] [] []) :=
  .mk _ _ _ _ _ _ (by decide) (by decide) (Or.inr rfl) (Or.inr rfl) (Or.inl rfl) (Or.inr rfl) rfl (by omega) (by omega) (Or.inl (by omega)) (by decide) (by simp) (by decide) (fun s h => by simp at h) (fun i h => by simp at h) (fun x hx => by
    have e : x = j := by simpa using hx
    subst e; exact h) (fun x h => by simp at h)

/-- A cell beside six that are set. -/
theorem cell_sets6 {w : World} {c d j : Nat} {v : Value} (v0 v1 v2 v3 v4 v5 : Value) (h : ¬ d = c) (hc : w.cell? ⟨d, j, none⟩ = some v) :
    ((((((w.setCell ⟨c, 0, none⟩ v0).setCell ⟨c, 1, none⟩ v1).setCell ⟨c, 2, none⟩ v2).setCell ⟨c, 3, none⟩ v3).setCell ⟨c, 4, none⟩ v4).setCell ⟨c, 5, none⟩ v5).cell? ⟨d, j, none⟩ = some v := by
  have g : ∀ (w : World) (i : Nat) (u : Value), (w.setCell ⟨c, i, none⟩ u).cell? ⟨d, j, none⟩ = w.cell? ⟨d, j, none⟩ := fun w i u => World.cell?_of_block (w := w) (Below.heap_setCell _ _ _ _ h)
  rw [g, g, g, g, g, g]
  exact hc

set_option maxRecDepth 100000 in
set_option maxHeartbeats 2000000 in
theorem call_walk (x y : VC) (b c : Nat) (N : Prop) (Q : List Nat → Prop) (w : World) (hy : At6 w b 0 y) (hb : b < w.heap.size)
    (hv1 : ∀ wr, Below w.heap.size w wr → Calls Tryz.prog 20 #[x.val] wr (RB wr fun r => r = false))
    (hv2 : ∀ wr, Below w.heap.size w wr → Calls Tryz.prog 20 #[(listC (some ⟨b, 0, none⟩) 1 c).val] wr (RB wr fun r => r = false))
    (hcall : ∀ wr, Below w.heap.size w wr → Calls Tryz.prog 23 #[.string nmI, x.val, y.val] wr (RWh wr N Q)) :
    Calls Tryz.prog 7 #[.string nmI, x.val, .slice (some ⟨b, 0, none⟩) 1 c] w (RWh w N Q) := by
  obtain ⟨bx, hbx⟩ : ∃ b, b = box2 w x := ⟨_, rfl⟩
  have X0 := box2_size w x
  have X1 := box2_below w x
  have M0 := box2_0 w x
  have M1 := box2_1 w x
  rw [← hbx] at X0 X1 M0 M1
  have hX1 := X1
  have hvx := hv1 bx X1
  clear hv1
  have HBX := Lib.hid hbx
  obtain ⟨POST, hP⟩ : ∃ R, RWh w N Q = R := ⟨_, rfl⟩
  rw [hP]
  have HP := Lib.hid hP
  clear hP hbx
  obtain ⟨k1, f1, s, la, ln, lc, ka, kn, kc, va, vn, vc⟩ := x
  simp only at M0
  have HM := Lib.hid (And.intro X0 (And.intro M1 M0))
  clear X0 X1 M1 M0
  go_enter Tryz.func7, Tryz.ntmps7
  go_wp2_with fail
  rw [HBX.out] at hvx
  refine hvx.mono ?_
  rintro e w1 ⟨r, rfl, hr, hb1⟩
  obtain rfl := hr.out
  change Below (box2 _ _).heap.size (box2 _ _) w1 at hb1
  rw [← HBX.out] at hb1
  have hbw1 := hX1.trans (hb1.mono hX1.size)
  have hz1 : w.heap.size + 2 ≤ w1.heap.size := by have := hb1.size; have := HM.out.1; omega
  have HM1 := Lib.hid (And.intro ((hb1.block (w.heap.size + 1) (by have := HM.out.1; omega)).trans HM.out.2.1) ((hb1.block (w.heap.size) (by have := HM.out.1; omega)).trans HM.out.2.2))
  clear hvx hr hb1 hX1
  have hcal := array_any (some ⟨b, 0, none⟩) 1 c w1
  obtain ⟨X, hX⟩ : ∃ X, X = listC (some ⟨b, 0, none⟩) 1 c := ⟨_, rfl⟩
  rw [← hX] at hcal hv2
  clear hX
  go_wp2_with fail
  refine hcal.mono ?_
  rintro e w2 ⟨rfl, hb2⟩
  have hbw2 := hbw1.trans (hb2.mono hbw1.size)
  have hz2 : w.heap.size + 2 ≤ w2.heap.size := by have := hb2.size; omega
  have HM2 := Lib.hid (And.intro ((hb2.block (w.heap.size + 1) (by omega)).trans HM1.out.1) ((hb2.block (w.heap.size) (by omega)).trans HM1.out.2))
  clear hcal hb2 HM1 HM hbw1
  go_wp2_with fail
  refine (hv2 w2 hbw2).mono ?_
  rintro e w3 ⟨r, rfl, hr, hb3⟩
  obtain rfl := hr.out
  have hbw3 := hbw2.trans (hb3.mono hbw2.size)
  have hz3 : w.heap.size + 2 ≤ w3.heap.size := by have := hb3.size; omega
  have HM3 := Lib.hid (And.intro ((hb3.block (w.heap.size + 1) (by omega)).trans HM2.out.1) ((hb3.block (w.heap.size) (by omega)).trans HM2.out.2))
  clear hr hb3 HM2 hbw2 hv2
  obtain ⟨p0, p1, p2, p3, p4, p5⟩ := cells6 HM3.out.2
  obtain ⟨c0, c1, c2, c3, c4, c5⟩ := hy.keep hbw3 hb
  simp only [Nat.zero_add] at c1 c2 c3 c4 c5
  have hT := Lib.hid (And.intro HM3.out.1 hbw3)
  have hA : Hid (At6 w3 w.heap.size 0 ⟨k1, f1, s, la, ln, lc, ka, kn, kc, va, vn, vc⟩ ∧ At6 w3 b 0 y) := Lib.hid ⟨by
    obtain ⟨p0, p1, p2, p3, p4, p5⟩ := cells6 HM3.out.2
    exact ⟨p0, by simpa using p1, by simpa using p2, by simpa using p3, by simpa using p4, by simpa using p5⟩, hy.keep hbw3 hb⟩
  have hne1 : ¬ w.heap.size = w.heap.size + 1 := by omega
  have hne2 : ¬ b = w.heap.size + 1 := by omega
  clear hbw3 HM3
  go_wp2_with fail
  go_region_held3 (fun w' => w'.cell? ⟨w.heap.size, 0, none⟩ = some (.int .i64 k1) ∧ w'.cell? ⟨w.heap.size, 1, none⟩ = some (.int .i64 f1) ∧ w'.cell? ⟨w.heap.size, 2, none⟩ = some (.string s) ∧ w'.cell? ⟨w.heap.size, 3, none⟩ = some (.slice la ln lc) ∧ w'.cell? ⟨w.heap.size, 4, none⟩ = some (.slice ka kn kc) ∧ w'.cell? ⟨w.heap.size, 5, none⟩ = some (.slice va vn vc) ∧
      w'.cell? ⟨b, 0, none⟩ = some (.int .i64 y.kind) ∧ w'.cell? ⟨b, 1, none⟩ = some (.int .i64 y.half) ∧ w'.cell? ⟨b, 2, none⟩ = some (.string y.text) ∧ w'.cell? ⟨b, 3, none⟩ = some (.slice y.la y.ln y.lc) ∧ w'.cell? ⟨b, 4, none⟩ = some (.slice y.ka y.kn y.kc) ∧ w'.cell? ⟨b, 5, none⟩ = some (.slice y.va y.vn y.vc))
    (first | (with_reducible exact ⟨g0, g1, g2, g3, g4, g5, g6, g7, g8, g9, g10, g11⟩) | (with_reducible exact ⟨cell_sets6 _ _ _ _ _ _ hne1 g0, cell_sets6 _ _ _ _ _ _ hne1 g1, cell_sets6 _ _ _ _ _ _ hne1 g2, cell_sets6 _ _ _ _ _ _ hne1 g3, cell_sets6 _ _ _ _ _ _ hne1 g4, cell_sets6 _ _ _ _ _ _ hne1 g5, cell_sets6 _ _ _ _ _ _ hne2 g6, cell_sets6 _ _ _ _ _ _ hne2 g7, cell_sets6 _ _ _ _ _ _ hne2 g8, cell_sets6 _ _ _ _ _ _ hne2 g9, cell_sets6 _ _ _ _ _ _ hne2 g10, cell_sets6 _ _ _ _ _ _ hne2 g11⟩) | go_keep) (first | (go_at_call 23; refine (hcall _ hT.out.2.drew).mono ?_; rintro e w4 ⟨Y, h, rfl, hbd, hres⟩; have hb4 := ((Below.refl w3.heap.size w3).drew).trans hbd; have hlt4 := Nat.le_trans hz3 hb4.size; obtain ⟨g0, g1, g2, g3, g4, g5⟩ := hA.out.1.keep (w' := w4) (B := w3.heap.size) hb4 (by omega); obtain ⟨g6, g7, g8, g9, g10, g11⟩ := hA.out.2.keep (w' := w4) (B := w3.heap.size) hb4 (by omega); simp only [Nat.zero_add] at g1 g2 g3 g4 g5 g7 g8 g9 g10 g11; have HM5 := Lib.hid ((hb4.block (w.heap.size + 1) (show w.heap.size + 1 < w3.heap.size by omega)).trans hT.out.1); have HB5 := Lib.hid (hT.out.2.trans (hb4.mono hT.out.2.size)); have HR := Lib.hid hres; clear hb4 hbd hres p0 p1 p2 p3 p4 p5 c0 c1 c2 c3 c4 c5 hcall; obtain ⟨z0, z1, z2, z3, z4, z5⟩ := cells6 HM5.out; have y0 := (cell_of_block HM5.out 0).2; have y1 := (cell_of_block HM5.out 1).2; have y2 := (cell_of_block HM5.out 2).2; have y3 := (cell_of_block HM5.out 3).2; have y4 := (cell_of_block HM5.out 4).2; have y5 := (cell_of_block HM5.out 5).2))
  go_wp2_with fail
  obtain ⟨hs6, hb6, _⟩ := sets6 (m := 0) (base := 0) (n := 0) (v := .int .i64 0) (xs := []) (.int .i64 Y.kind) (.int .i64 Y.half) (.string Y.text) (.slice Y.la Y.ln Y.lc) (.slice Y.ka Y.kn Y.kc) (.slice Y.va Y.vn Y.vc) HM5.out HB5.out (by omega) (Or.inl rfl)
  have ho6 := own6 (w4 := w4) (b := w.heap.size + 1) (base := w3.drew.heap.size) (.int .i64 Y.kind) (.int .i64 Y.half) (.string Y.text) (.slice Y.la Y.ln Y.lc) (.slice Y.ka Y.kn Y.kc) (.slice Y.va Y.vn Y.vc) (show w.heap.size + 1 < w3.heap.size by omega)
  generalize ((((((w4.setCell _ _).setCell _ _).setCell _ _).setCell _ _).setCell _ _).setCell _ _) = w9 at hs6 ho6 hb6 ⊢
  obtain ⟨x0, x1, x2, x3, x4, x5⟩ := cells6 hs6
  rw [← HP.out]
  refine bodyPost_ret (v := .tuple #[Y.val, .int .i64 h]) ?_ rfl ⟨Y, h, rfl, hb6, RWp.to HR.out (show w.heap.size ≤ w3.heap.size by omega) ho6⟩
  rw [results_cell_tmp rfl]
  go_simp

/-- spec.Call at indices, of two right values. -/
theorem call_any (j1 j2 : JV) (x y : VC) (b c : Nat) (B : Nat) (w : World) (h1 : VRep w B x j1) (h2 : VRep w B y j2) (hB : B ≤ w.heap.size) (r1 : Right j1) (r2 : Right j2) (hy : At6 w b 0 y) (hb : b < w.heap.size) (hc1 : 1 ≤ c) (hc2 : c ≤ 9223372036854775807) :
    Calls Tryz.prog 7 #[.string nmI, x.val, .slice (some ⟨b, 0, none⟩) 1 c] w (RWh w (OkJ j1 j2 ∧ spots j1 j2 = none) (fun L => OkJ j1 j2 ∧ spots j1 j2 = some L)) := by
  refine call_walk x y b c _ _ w hy hb (fun wr hbl => ?_) (fun wr hbl => ?_) (fun wr hbl => ?_)
  · exact vague_any _ j1 x B wr (Nat.lt_succ_self _) (h1.keep (hbl.mono hB) (Nat.le_refl _)) (Nat.le_trans hB hbl.size) r1
  · have hone := (h2.keep (hbl.mono hB) (Nat.le_trans hB hbl.size)).one (hy.keep hbl hb) (Nat.lt_of_lt_of_le hb hbl.size) hc1 hc2
    exact vague_any _ _ _ wr.heap.size wr (Nat.lt_succ_self _) hone (Nat.le_refl _) r2.one
  · refine along_any x y _ _ wr (fun wq hbq => ?_)
    have hbb := hbl.trans (hbq.mono hbl.size)
    exact where_any j1 j2 x y B wq (h1.keep (hbb.mono hB) (Nat.le_refl _)) (h2.keep (hbb.mono hB) (Nat.le_refl _)) (Nat.le_trans hB hbb.size) r1 r2
end Go.Proofs.YtaockngppbeanaaGreatDoor
