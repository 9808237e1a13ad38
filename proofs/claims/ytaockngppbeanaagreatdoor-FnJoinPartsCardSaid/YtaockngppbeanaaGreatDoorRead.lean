/- An argument of type impl.Value that can be read lies in memory as a value of ours. Condition: what it holds is within the reach. -/
import Derived.Test.YtaockngppbeanaaGreatDoorBase
import Derived.ProofKit
import Derived.OpenShut
import Derived.Deep.Slices
namespace Go.Proofs.YtaockngppbeanaaGreatDoor
open Go.RowKit Go.ChangeShapes Go.WideShapes Go.Deep

instance : Inhabited VC := ⟨{ kind := 0, half := 0, text := ByteArray.empty, la := none, ln := 0, lc := 0, ka := none, kn := 0, kc := 0, va := none, vn := 0, vc := 0 }⟩
instance : Inhabited JV := ⟨JV.mk 0 0 ByteArray.empty [] [] []⟩

section
variable {H : Type} {enc : TypeId × Value → H} {P : Program}

def OKW (l : List Nat) : Prop := l.all (· ≤ reachBytes) = true
theorem okw_append {l r : List Nat} : OKW (l ++ r) ↔ OKW l ∧ OKW r := by simp [OKW, List.all_append]
theorem okw_cons {a : Nat} {r : List Nat} : OKW (a :: r) ↔ a ≤ 140737488351232 ∧ OKW r := by
  rw [OKW, List.all_cons, Bool.and_eq_true, decide_eq_true_iff]
  rfl
theorem okw_mem {e : TypeId} : ∀ {l : List (DataW H)} {d : DataW H}, d ∈ l → OKW (DataW.weightsAll P e l) → OKW (d.weights P e)
  | x :: l, d, h, hw => by
    rw [DataW.weightsAll, okw_append] at hw
    rcases List.mem_cons.1 h with rfl | h
    · exact hw.1
    · exact okw_mem h hw.2
theorem list6 {α : Type} {l : List α} (h : l.length = 6) : ∃ a b c d e f, l = [a, b, c, d, e, f] := by
  match l, h with
  | [a, b, c, d, e, f], _ => exact ⟨a, b, c, d, e, f, rfl⟩

/-- A slice's cells at plain addresses. -/
theorem plain_addr {w : World} {a : Addr} {v : Value} (h : w.cell? (a.add 0) = some v) : a = ⟨a.block, a.off, none⟩ := by
  obtain ⟨b, o, s⟩ := a
  have : s = none := by simpa [Addr.add] using World.cell?_spot h
  subst this
  rfl

theorem row6_of {w : World} {a : Addr} {n : Nat} {L : Nat → VC} (h : ∀ i, i < n → w.cells? 0 (a.add (i * 6)) 6 = some [.int .i64 (L i).kind, .int .i64 (L i).half, .string (L i).text, .slice (L i).la (L i).ln (L i).lc, .slice (L i).ka (L i).kn (L i).kc, .slice (L i).va (L i).vn (L i).vc]) :
    Row6 w w.heap.size (some a) n L := by
  by_cases h0 : n = 0
  · exact Or.inl h0
  have c0 := (World.cells?_some (h 0 (by omega))).2.2 0 (by omega)
  rw [Nat.zero_mul, add_add] at c0
  have ea := plain_addr (w := w) (a := a) c0
  refine Or.inr ⟨a.block, a.off, by rw [← ea], ?_, fun i hi => ?_⟩
  · have : w.cell? (a.add 0) = some _ := c0
    rw [ea] at this
    unfold World.cell? at this
    by_cases hb : a.block < w.heap.size
    · exact hb
    · simp [Addr.add, Array.getElem?_eq_none (show w.heap.size ≤ a.block by omega)] at this
  · have cc := fun j (hj : j < 6) => (World.cells?_some (h i hi)).2.2 j hj
    have cell : ∀ j, j < 6 → w.cell? ⟨a.block, a.off + i * 6 + j, none⟩ = ([.int .i64 (L i).kind, .int .i64 (L i).half, .string (L i).text, .slice (L i).la (L i).ln (L i).lc, .slice (L i).ka (L i).kn (L i).kc, .slice (L i).va (L i).vn (L i).vc] : List Value)[j]? := fun j hj => by
      rw [← cc j hj, add_add, ea]
      rw [add_plain, Nat.add_assoc]
    exact ⟨by simpa using cell 0 (by omega), by simpa using cell 1 (by omega), by simpa using cell 2 (by omega), by simpa using cell 3 (by omega), by simpa using cell 4 (by omega), by simpa using cell 5 (by omega)⟩

theorem row1_of {w : World} {a : Addr} {n : Nat} {C : Nat → Value} (h : ∀ i, i < n → w.cell? (a.add i) = some (C i)) : Row1 w w.heap.size (some a) n C := by
  by_cases h0 : n = 0
  · exact Or.inl h0
  have c0 := h 0 (by omega)
  have ea := plain_addr (w := w) (a := a) c0
  refine Or.inr ⟨a.block, a.off, by rw [← ea], ?_, fun i hi => ?_⟩
  · have : w.cell? (a.add 0) = some _ := c0
    rw [ea] at this
    unfold World.cell? at this
    by_cases hb : a.block < w.heap.size
    · exact hb
    · simp [Addr.add, Array.getElem?_eq_none (show w.heap.size ≤ a.block by omega)] at this
  · rw [← h i hi, ea, add_plain]

set_option maxRecDepth 100000 in
/-- A slice of values that can be read, each of whose elements is a value of ours. -/
theorem read_row {w : World} {fuel : Nat} {cs : List Value} {x : DataW H × List MemPlace} (h : DataW.trod enc Tryz.prog w 0 (fun _ => true) true fuel 23 cs = some x) (hw : OKW (x.1.weights Tryz.prog 23))
    (ih : ∀ (fuel : Nat) (cs : List Value) (y : DataW H × List MemPlace), SizeOf.sizeOf y.1 < SizeOf.sizeOf x.1 → DataW.trod enc Tryz.prog w 0 (fun _ => true) true fuel 26 cs = some y → OKW (y.1.weights Tryz.prog 26) →
      ∃ (X : VC) (j : JV), cs = [.int .i64 X.kind, .int .i64 X.half, .string X.text, .slice X.la X.ln X.lc, .slice X.ka X.kn X.kc, .slice X.va X.vn X.vc] ∧ VRep w w.heap.size X j) :
    ∃ (a : Option Addr) (n c : Nat) (L : Nat → VC) (J : Nat → JV), cs = [.slice a n c] ∧ n ≤ c ∧ c ≤ 140737488351232 ∧ Row6 w w.heap.size a n L ∧ ∀ i, i < n → VRep w w.heap.size (L i) (J i) := by
  rcases open_slice Tryz.underlying23 h with ⟨rfl, rfl⟩ | ⟨a, len, cap, m, n, D, Pl, rfl, _, hl, hm, hmm, rfl, hx⟩
  · exact ⟨none, 0, 0, fun _ => default, fun _ => default, rfl, Nat.le_refl _, by omega, Or.inl rfl, fun i hi => by omega⟩
  have hmc : m = cap := by simpa using hmm
  subst hmc
  have c26 : Tryz.prog.cellsOf 26 = 6 := by kernel_rfl
  have b26 : Tryz.prog.bytesOf 26 = 104 := by kernel_rfl
  rw [DataW.weights, Tryz.underlying23] at hw
  simp only [okw_cons, okw_append, List.length_map, List.length_range, b26] at hw
  rw [c26] at hx
  have hel : ∀ i, i < len → ∃ p : VC × JV, w.cells? 0 (a.add (i * 6)) 6 = some [.int .i64 p.1.kind, .int .i64 p.1.half, .string p.1.text, .slice p.1.la p.1.ln p.1.lc, .slice p.1.ka p.1.kn p.1.kc, .slice p.1.va p.1.vn p.1.vc] ∧ VRep w w.heap.size p.1 p.2 := fun i hi => by
    obtain ⟨cs', h1, h2⟩ := hx i (by omega)
    have hmem : D i ∈ (List.range len).map D := List.mem_map_of_mem (by simpa using hi)
    obtain ⟨X, j, rfl, hr⟩ := ih n cs' (D i, Pl i) (by
      have := List.sizeOf_lt_of_mem hmem
      simp only [DataW.slice.sizeOf_spec]
      omega) h2 (okw_mem hmem hw.2.1)
    exact ⟨(X, j), h1, hr⟩
  obtain ⟨f, hf⟩ := choose_lt (α := VC × JV) hel
  exact ⟨some a, len, m, fun i => (f i).1, fun i => (f i).2, rfl, hl, by omega, row6_of fun i hi => (hf i hi).1, fun i hi => (hf i hi).2⟩

set_option maxRecDepth 100000 in
theorem read_value (w : World) (n : Nat) : ∀ (fuel : Nat) (cs : List Value) (x : DataW H × List MemPlace), SizeOf.sizeOf x.1 < n → DataW.trod enc Tryz.prog w 0 (fun _ => true) true fuel 26 cs = some x → OKW (x.1.weights Tryz.prog 26) →
    ∃ (X : VC) (j : JV), cs = [.int .i64 X.kind, .int .i64 X.half, .string X.text, .slice X.la X.ln X.lc, .slice X.ka X.kn X.kc, .slice X.va X.vn X.vc] ∧ VRep w w.heap.size X j := by
  induction n with
  | zero => intro fuel cs x h; omega
  | succ n ih =>
    intro fuel cs x hn h hw
    obtain ⟨xs, m, rfl, rfl, hl, hlen, hf⟩ := DataW.trod_struct Tryz.underlying26 h
    have c26 : Tryz.prog.cellsOf 26 = 6 := by kernel_rfl
    have c22 : Tryz.prog.cellsOf 22 = 1 := by kernel_rfl
    have c3 : Tryz.prog.cellsOf 3 = 1 := by kernel_rfl
    have c9 : Tryz.prog.cellsOf 9 = 1 := by kernel_rfl
    have c23 : Tryz.prog.cellsOf 23 = 1 := by kernel_rfl
    have c24 : Tryz.prog.cellsOf 24 = 1 := by kernel_rfl
    rw [c26] at hl
    obtain ⟨v0, v1, v2, v3, v4, v5, rfl⟩ := list6 hl
    obtain ⟨y0, y1, y2, y3, y4, y5, rfl⟩ := list6 (by simpa using hlen)
    have f0 := hf 0 _ rfl
    have f1 := hf 1 _ rfl
    have f2 := hf 2 _ rfl
    have f3 := hf 3 _ rfl
    have f4 := hf 4 _ rfl
    have f5 := hf 5 _ rfl
    clear hf
    simp [c22, c3, c9, c23, c24] at f0 f1 f2 f3 f4 f5
    obtain ⟨k, e0, rfl, w0⟩ := DataW.trod_int Tryz.underlying22 f0
    obtain ⟨h2, e1, rfl, w1⟩ := DataW.trod_int Tryz.underlying3 f1
    obtain ⟨t, e2, rfl, w2⟩ := DataW.trod_string Tryz.underlying9 f2
    simp only [List.cons.injEq, and_true] at e0 e1 e2
    subst e0 e1 e2
    rw [DataW.weights, Tryz.underlying26] at hw
    simp only [List.map_cons, List.map_nil, DataW.weightsEach, DataW.weights, okw_append, okw_cons, List.append_nil, List.nil_append] at hw
    obtain ⟨⟨hwt, _⟩, hw3, hw4, hw5⟩ := hw
    have hs3 : SizeOf.sizeOf y3.1 < n := by simp at hn; omega
    have hs5 : SizeOf.sizeOf y5.1 < n := by simp at hn; omega
    obtain ⟨a3, n3, k3, L3, J3, e3, hl3, hk3, r3, h3⟩ := read_row f3 hw3 (fun fuel cs y hy => ih fuel cs y (by omega))
    obtain ⟨a5, n5, k5, L5, J5, e5, hl5, hk5, r5, h5⟩ := read_row f5 hw5 (fun fuel cs y hy => ih fuel cs y (by omega))
    obtain ⟨a4, n4, k4, ss, e4, hl4, hk4, hn4, r4, h4⟩ : ∃ (a : Option Addr) (n c : Nat) (ss : List ByteArray), [v4] = [Value.slice a n c] ∧ n ≤ c ∧ c ≤ 140737488351232 ∧ ss.length = n ∧ Row1 w w.heap.size a n (fun i => .string (ss.getD i ByteArray.empty)) ∧ ∀ s ∈ ss, s.size ≤ 140737488351232 := by
      rcases open_strings Tryz.underlying24 Tryz.underlying9 c9 f4 with ⟨hcs, _⟩ | ⟨a, len, cap, ss, hcs, _, hl, hm, hz, hx, hcell, _⟩
      · exact ⟨none, 0, 0, [], hcs, Nat.le_refl _, by omega, rfl, Or.inl rfl, fun s hs => by simp at hs⟩
      · have hz' : ss.length = cap := by simpa using hz
        have b9 : Tryz.prog.bytesOf 9 = 16 := by kernel_rfl
        rw [hx, DataW.weights, Tryz.underlying24] at hw4
        simp only [okw_cons, okw_append, strs, List.length_map, List.length_take, List.length_drop, b9] at hw4
        refine ⟨some a, len, cap, ss.take len, hcs, hl, by omega, by simp; omega, row1_of fun i hi => ?_, fun s hs => ?_⟩
        · rw [hcell i (by omega), List.getD_eq_getElem?_getD, List.getD_eq_getElem?_getD, List.getElem?_take_of_lt hi]
        · have := okw_mem (List.mem_map_of_mem (f := fun s : ByteArray => (DataW.lit (.string s.data.toList) : DataW H)) hs) hw4.2.1
          rw [DataW.weights, okw_cons] at this
          exact this.1
    simp only [List.cons.injEq, and_true] at e3 e4 e5
    subst e3 e4 e5
    have b0 := bounds_i64 w0
    have b1 := bounds_i64 w1
    refine ⟨⟨k, h2, t, a3, n3, k3, a4, n4, k4, a5, n5, k5⟩, _, rfl, .mk ⟨k, h2, t, a3, n3, k3, a4, n4, k4, a5, n5, k5⟩ ((List.range n3).map J3) ss ((List.range n5).map J5) L3 L5 (by simp) hn4.symm (by simp) (by show n3 ≤ _; omega) (by show n4 ≤ _; omega) (by show n5 ≤ _; omega) hl3 hl4 hl5
      (by show k3 ≤ _; omega) (by show k4 ≤ _; omega) (by show k5 ≤ _; omega) hwt b0 b1 (fun i hi => ?_) r3 r4 r5 (fun i hi => ?_) (fun i hi => ?_)⟩
    · rw [List.getD_eq_getElem?_getD, List.getElem?_eq_getElem hi]
      exact h4 _ (List.getElem_mem hi)
    · simpa using h3 i (by simpa using hi)
    · simpa using h5 i (by simpa using hi)
end
end Go.Proofs.YtaockngppbeanaaGreatDoor
