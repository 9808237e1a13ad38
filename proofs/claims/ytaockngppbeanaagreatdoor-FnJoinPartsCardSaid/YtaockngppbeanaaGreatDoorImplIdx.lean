/- impl.Indices: a Res with the places, or an error. -/
import Derived.Test.YtaockngppbeanaaGreatDoorZzIdx
import Derived.Test.YtaockngppbeanaaGreatDoorToGo
namespace Go.Proofs.YtaockngppbeanaaGreatDoor
open Go.RowKit

def RAns (w : World) (o : Option (List Nat)) : Ending → World → Prop := match o with | some L => RRes w L | none => RResErr w

set_option maxRecDepth 100000 in
set_option maxHeartbeats 4000000 in
theorem result_any (o : Option (List Nat)) (hL : ∀ L, o = some L → (∀ k ∈ L, k ≤ 2000) ∧ L.length ≤ 2000) (w0 w : World) (v : Value) (hv : RZ w0 o (.returned v) w) : Calls Tryz.prog 28 #[v] w (RAns w o) := by
  cases o with
  | none =>
    obtain ⟨p, e, _⟩ := hv
    injection e with e
    subst e
    exact result_err _ _
  | some L =>
    obtain ⟨a, c, n, hn, e, ho, hb⟩ := hv
    injection e with e
    subst e
    obtain ⟨h1, h2⟩ := hL L rfl
    have hx : ∀ i, i < n → (L.map iv)[i]? = some (iv (L.getD i 0)) := fun i hi => by
      have h : i < L.length := by omega
      simp [h]
    obtain ⟨_, _, hr⟩ := ownsRow_row ho hx (Nat.le_refl _)
    exact result_list L h1 h2 a n c _ _ w hn (Nat.le_refl _) hr

theorem RZ.ret {w : World} {o : Option (List Nat)} {e : Ending} {w' : World} (h : RZ w o e w') : ∃ v, e = .returned v ∧ (∃ t x, v = .iface t x) ∧ Below w.heap.size w w' := by
  cases o with
  | none => obtain ⟨p, rfl, hb⟩ := h; exact ⟨_, rfl, ⟨_, _, rfl⟩, hb⟩
  | some L => obtain ⟨a, c, n, _, rfl, _, hb⟩ := h; exact ⟨_, rfl, ⟨_, _, rfl⟩, hb⟩

/-- What the seven cells of an answer say. -/
def AnsW (base : Nat) (o : Option (List Nat)) (k q : Int) (a : Option Addr) (n c : Nat) (w' : World) : Prop := match o with
  | some L => k = 5 ∧ q = 0 ∧ n = L.length ∧ w'.ownsRow base 26 6 (.slice a n c) n (numsC L)
  | none => k = 0 ∧ q = 1 ∧ a = none ∧ n = 0 ∧ c = 0
theorem AnsW.base {b b2 : Nat} {o : Option (List Nat)} {k q : Int} {a : Option Addr} {n c : Nat} {w : World} (h : AnsW b o k q a n c w) (hb : b2 ≤ b) : AnsW b2 o k q a n c w := by
  cases o with
  | none => exact h
  | some L => exact ⟨h.1, h.2.1, h.2.2.1, ownsRow_base h.2.2.2 hb⟩
theorem AnsW.set {b : Nat} {o : Option (List Nat)} {k q : Int} {a : Option Addr} {n c : Nat} {w : World} (h : AnsW b o k q a n c w) (p : Addr) (u : Value) (hp : p.block < b) : AnsW b o k q a n c (w.setCell p u) := by
  cases o with
  | none => exact h
  | some L => exact ⟨h.1, h.2.1, h.2.2.1, ownsRow_set h.2.2.2 p u hp⟩
def RA2 (w : World) (o : Option (List Nat)) (e : Ending) (w' : World) : Prop :=
  ∃ k q a n c, e = .returned (.agg #[.int .i64 k, .int .i64 0, .string ⟨#[]⟩, .slice a n c, .slice none 0 0, .slice none 0 0, .int .i64 q]) ∧ AnsW w.heap.size o k q a n c w' ∧ Below w.heap.size w w'
theorem RAns.two {w : World} {o : Option (List Nat)} {e : Ending} {w' : World} (h : RAns w o e w') : RA2 w o e w' := by
  cases o with
  | none => obtain ⟨rfl, hb⟩ := h; exact ⟨0, 1, none, 0, 0, rfl, ⟨rfl, rfl, rfl, rfl, rfl⟩, hb⟩
  | some L => obtain ⟨a, n, c, h1, rfl, h2, hb⟩ := h; exact ⟨5, 0, a, n, c, rfl, ⟨rfl, rfl, h1, h2⟩, hb⟩

set_option maxRecDepth 100000 in
set_option maxHeartbeats 4000000 in
theorem implIndices_any (j1 j2 : JV) (x1 x2 : VC) (B : Nat) (w : World) (h1 : VRep w B x1 j1) (h2 : VRep w B x2 j2) (hB : B ≤ w.heap.size) (r1 : Right j1) (r2 : Right j2)
    (k1 : j1.kind ≠ 0) (k2 : j2.kind ≠ 0) (l1 : j1.list.length ≤ 400) (l2 : j2.list.length ≤ 400) (e1 : j1.kind = 5 → j2.kind = 5 → 1 ≤ j2.list.length) (e2 : j1.kind = 4 → j2.kind = 4 → 1 ≤ (runesOf j2.text).length)
    (hL : ∀ L, spots j1 j2 = some L → (∀ k ∈ L, k ≤ 2000) ∧ L.length ≤ 2000) :
    Calls Tryz.prog 9 #[x1.val, x2.val] w (RA2 w (spots j1 j2)) := by
  have c1 := fun wr (hb : Below w.heap.size w wr) => toGo_any _ j1 x1 B wr (Nat.lt_succ_self _) (h1.keep (hb.mono (by omega)) (Nat.le_refl _)) (by have := hb.size; omega) r1
  have c2 := fun wr (hb : Below w.heap.size w wr) => toGo_any _ j2 x2 B wr (Nat.lt_succ_self _) (h2.keep (hb.mono (by omega)) (Nat.le_refl _)) (by have := hb.size; omega) r2
  clear h1 h2 r1 r2
  obtain ⟨POST, hP⟩ : ∃ P, RA2 w (spots j1 j2) = P := ⟨_, rfl⟩
  rw [hP]
  have HP := Lib.hid hP
  clear hP
  obtain ⟨W3, hW3⟩ : ∃ W, W = ((boxV w x1).alloc (.cells #[.int .i64 x2.kind, .int .i64 x2.half, .string x2.text, .slice x2.la x2.ln x2.lc, .slice x2.ka x2.kn x2.kc, .slice x2.va x2.vn x2.vc] 26)).alloc (.cells #[.int .i64 0, .int .i64 0, .string ⟨#[]⟩, .slice none 0 0, .slice none 0 0, .slice none 0 0, .int .i64 0] 34) := ⟨_, rfl⟩
  have s3 : W3.heap.size = w.heap.size + 3 := by rw [hW3]; simp
  have b3 : Below w.heap.size w W3 := by rw [hW3]; exact (((Below.refl _ _).alloc (Nat.le_refl _) _).alloc (by simp) _).alloc (by simp; omega) _
  have m1 : W3.heap[w.heap.size + 1]? = some (.cells #[.int .i64 x2.kind, .int .i64 x2.half, .string x2.text, .slice x2.la x2.ln x2.lc, .slice x2.ka x2.kn x2.kc, .slice x2.va x2.vn x2.vc] 26) := by
    rw [hW3]
    refine (heap_alloc_old _ _ (by simp)).trans ?_
    have := heap_alloc_new (boxV w x1) (.cells #[.int .i64 x2.kind, .int .i64 x2.half, .string x2.text, .slice x2.la x2.ln x2.lc, .slice x2.ka x2.kn x2.kc, .slice x2.va x2.vn x2.vc] 26)
    simpa using this
  have m2 : W3.heap[w.heap.size + 2]? = some (.cells #[.int .i64 0, .int .i64 0, .string ⟨#[]⟩, .slice none 0 0, .slice none 0 0, .slice none 0 0, .int .i64 0] 34) := by
    rw [hW3]
    have := heap_alloc_new ((boxV w x1).alloc (.cells #[.int .i64 x2.kind, .int .i64 x2.half, .string x2.text, .slice x2.la x2.ln x2.lc, .slice x2.ka x2.kn x2.kc, .slice x2.va x2.vn x2.vc] 26)) (.cells #[.int .i64 0, .int .i64 0, .string ⟨#[]⟩, .slice none 0 0, .slice none 0 0, .slice none 0 0, .int .i64 0] 34)
    simpa using this
  have hE : Hid (((boxV w x1).alloc (.cells #[.int .i64 x2.kind, .int .i64 x2.half, .string x2.text, .slice x2.la x2.ln x2.lc, .slice x2.ka x2.kn x2.kc, .slice x2.va x2.vn x2.vc] 26)).alloc (.cells #[.int .i64 0, .int .i64 0, .string ⟨#[]⟩, .slice none 0 0, .slice none 0 0, .slice none 0 0, .int .i64 0] 34) = W3) := Lib.hid hW3.symm
  have HM := Lib.hid (And.intro s3 (And.intro b3 (And.intro m1 m2)))
  clear hW3 s3 b3 m1 m2
  go_enter Tryz.func9, Tryz.ntmps9
  go_wp2_with fail
  obtain ⟨s3, b3, m1, m2⟩ := HM.out
  have hc1 := c1 W3 b3
  rw [← hE.out] at hc1
  refine hc1.mono ?_
  rw [hE.out]
  rintro e w1 ⟨v1, rfl, g1, hb1⟩
  have n1 := (hb1.block _ (by omega)).trans m1
  have n2 := (hb1.block _ (by omega)).trans m2
  have bw1 := b3.trans (hb1.mono b3.size)
  have sz1 := hb1.size
  obtain ⟨d0, d1, d2, d3, d4, d5⟩ := cells6 n1
  have N2 := Lib.hid n2
  have HB1 := Lib.hid bw1
  have HG1 := Lib.hid g1
  have hsz : w.heap.size + 3 ≤ w1.heap.size := by omega
  have hc2 := c2 w1 bw1
  clear s3 b3 m1 m2 n1 n2 hb1 bw1 hc1 HM sz1 g1
  go_wp2_with fail
  refine hc2.mono ?_
  rintro e w2 ⟨v2, rfl, g2, hb2⟩
  have g1' := HG1.out.keep (.of_below hb2 (Nat.le_refl _)) (Nat.le_refl _) (Nat.le_refl _)
  have hz := zz_any j1 j2 v1 v2 _ _ _ _ w2 g1' g2 hb2.size (Nat.le_refl _) k1 k2 l1 l2 e1 e2
  have hsz2 : w.heap.size + 3 ≤ w2.heap.size := by have := hb2.size; omega
  have n2 := Lib.hid ((hb2.block _ (by omega)).trans N2.out)
  have bw2 := Lib.hid (HB1.out.trans (hb2.mono HB1.out.size))
  clear g1' g2 hb2 hsz d0 d1 d2 d3 d4 d5
  go_wp2_with fail
  refine hz.mono ?_
  rintro e w3 hr
  obtain ⟨v, rfl, _, hb3⟩ := hr.ret
  have hres := result_any (spots j1 j2) hL w2 w3 v hr
  have hsz3 : w.heap.size + 3 ≤ w3.heap.size := by have := hb3.size; omega
  have n3 := Lib.hid ((hb3.block _ (by omega)).trans n2.out)
  have bw3 := Lib.hid (bw2.out.trans (hb3.mono bw2.out.size))
  clear hz hr hb3 hsz2
  go_wp2_with fail
  refine hres.mono ?_
  rintro e w4 hr
  obtain ⟨k, q, a, n, c, rfl, ha, hb4⟩ := hr.two
  have n4 := (hb4.block _ (by omega)).trans n3.out
  have bw4 := bw3.out.trans (hb4.mono bw3.out.size)
  have hsz4 : w.heap.size + 3 ≤ w4.heap.size := by have := hb4.size; omega
  have HA := Lib.hid (ha.base (b2 := w.heap.size + 3) hsz3)
  clear hr ha hb4
  have q0 := cell_of_block n4
  have q00 := q0 0
  have q01 := q0 1
  have q02 := q0 2
  have q03 := q0 3
  have q04 := q0 4
  have q05 := q0 5
  have q06 := q0 6
  simp only [List.getElem?_toArray, List.getElem?_cons_succ, List.getElem?_cons_zero] at q00 q01 q02 q03 q04 q05 q06
  clear q0
  go_wp2_with fail
  have hs6 := set7 (.int .i64 k) (.int .i64 0) (.string ⟨#[]⟩) (.slice a n c) (.slice none 0 0) (.slice none 0 0) (.int .i64 q) n4
  have ho6 := ((((((HA.out.set ⟨w.heap.size + 2, 0, none⟩ (.int .i64 k) (by show w.heap.size + 2 < _; omega)).set ⟨w.heap.size + 2, 1, none⟩ (.int .i64 0) (by show w.heap.size + 2 < _; omega)).set ⟨w.heap.size + 2, 2, none⟩ (.string ⟨#[]⟩) (by show w.heap.size + 2 < _; omega)).set ⟨w.heap.size + 2, 3, none⟩ (.slice a n c) (by show w.heap.size + 2 < _; omega)).set ⟨w.heap.size + 2, 4, none⟩ (.slice none 0 0) (by show w.heap.size + 2 < _; omega)).set ⟨w.heap.size + 2, 5, none⟩ (.slice none 0 0) (by show w.heap.size + 2 < _; omega)).set ⟨w.heap.size + 2, 6, none⟩ (.int .i64 q) (by show w.heap.size + 2 < _; omega)
  have hb6 := ((((((bw4.setCell (p := ⟨w.heap.size + 2, 0, none⟩) (by show w.heap.size ≤ w.heap.size + 2; omega) (.int .i64 k)).setCell (p := ⟨w.heap.size + 2, 1, none⟩) (by show w.heap.size ≤ w.heap.size + 2; omega) (.int .i64 0)).setCell (p := ⟨w.heap.size + 2, 2, none⟩) (by show w.heap.size ≤ w.heap.size + 2; omega) (.string ⟨#[]⟩)).setCell (p := ⟨w.heap.size + 2, 3, none⟩) (by show w.heap.size ≤ w.heap.size + 2; omega) (.slice a n c)).setCell (p := ⟨w.heap.size + 2, 4, none⟩) (by show w.heap.size ≤ w.heap.size + 2; omega) (.slice none 0 0)).setCell (p := ⟨w.heap.size + 2, 5, none⟩) (by show w.heap.size ≤ w.heap.size + 2; omega) (.slice none 0 0)).setCell (p := ⟨w.heap.size + 2, 6, none⟩) (by show w.heap.size ≤ w.heap.size + 2; omega) (.int .i64 q)
  have ee : w.heap.size + 1 + 1 = w.heap.size + 2 := by omega
  rw [ee]
  generalize (((((((w4.setCell _ _).setCell _ _).setCell _ _).setCell _ _).setCell _ _).setCell _ _).setCell _ _) = w9 at hs6 ho6 hb6 ⊢
  rw [← HP.out]
  refine bodyPost_ret (v := .agg #[.int .i64 k, .int .i64 0, .string ⟨#[]⟩, .slice a n c, .slice none 0 0, .slice none 0 0, .int .i64 q]) ?_ rfl ⟨k, q, a, n, c, rfl, ho6.base (by omega), hb6⟩
  exact results_cell_row rfl _ _ (w.heap.size + 2) 34 _ (0, 0) _ rfl hs6 Tryz.underlying34 rfl (by kernel_rfl)
end Go.Proofs.YtaockngppbeanaaGreatDoor
