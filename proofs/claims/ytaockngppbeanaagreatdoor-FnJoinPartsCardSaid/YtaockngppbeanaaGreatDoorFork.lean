/- A drawn region keeps what each of its ready operations keeps; operations at a frame not written out; what holds of the operations listed so far in the law's drawn region of twenty, and what it leaves. Condition: those of each theorem alone, none on the program's input. -/
import Derived.Orders
import Derived.WalkKit
import Derived.Test.YtaockngppbeanaaGreatDoorJoinBits
import Derived.Deep.RegionHeld3
import Derived.Deep.DrawnRows
namespace Go.Proofs.YtaockngppbeanaaGreatDoor
open Go

theorem count_set : ∀ (l : List Bool) (i : Nat), l[i]? = some false → (l.set i true).count false + 1 = l.count false
  | [], i, h => by simp at h
  | x :: l, 0, h => by
    simp at h; subst h; simp
  | x :: l, i + 1, h => by
    have := count_set l i (by simpa using h)
    cases x <;> simp <;> omega

theorem ready_unlisted {md : Region.Mode} {ops : Array Oper} {listed : Array Bool} {i : Nat} (h : i ∈ Region.ready md ops listed) : listed[i]? = some false := by
  unfold Region.ready at h
  have h2 := (List.mem_filter.1 h).2
  rw [Bool.and_eq_true] at h2
  have h3 := h2.1
  cases e : listed[i]? with
  | none => simp [Array.getD_eq_getD_getElem?, e] at h3
  | some b => cases b <;> simp_all

theorem ready_none {md : Region.Mode} {ops : Array Oper} {listed : Array Bool} (h : listed.toList.count false = 0) : Region.ready md ops listed = [] := by
  rw [List.eq_nil_iff_forall_not_mem]
  intro i hi
  have := ready_unlisted hi
  have hm : false ∈ listed.toList := by
    rw [← Array.getElem?_toList] at this
    exact List.mem_of_getElem? this
  exact absurd h (by have := List.count_pos_iff.2 hm; omega)

/-- Every ready operation keeps what holds; at the end it gives the post. -/
theorem wpAny_inv {P : Program} {md : Region.Mode} {ops : Array Oper} {Q : Exit → Act → World → Prop} (Inv : Array Bool → Act → World → Prop)
    (step : ∀ listed a w, Inv listed a w → ∀ i ∈ Region.ready md ops listed, wpOp P ops Q i (Inv (listed.setIfInBounds i true)) a w)
    (done : ∀ listed a w, Inv listed a w → Region.ready md ops listed = [] → Q .normal a w) :
    ∀ (fuel : Nat) (listed : Array Bool) (a : Act) (w : World), listed.toList.count false ≤ fuel → Inv listed a w → wpAny P md ops Q fuel listed a w
  | 0, listed, a, w, hc, h => by
    have := ready_none (md := md) (ops := ops) (show listed.toList.count false = 0 by omega)
    exact ⟨this, done _ _ _ h this⟩
  | fuel + 1, listed, a, w, hc, h => by
    refine ⟨done _ _ _ h, fun i hi => wpOp_mono (fun a' w' h' => ?_) (step _ _ _ h i hi)⟩
    refine wpAny_inv Inv step done fuel _ a' w' ?_ h'
    have h1 := ready_unlisted hi
    rw [← Array.getElem?_toList] at h1
    have := count_set listed.toList i h1
    rw [Array.toList_setIfInBounds]
    omega

/-- .. at a region. -/
theorem wp_region_inv {P : Program} {id : Nat} {ops : Array Oper} {Q : Exit → Act → World → Prop} {a : Act} {w : World} (hm : P.follows .mixedOrders = true) (Inv : Array Bool → Act → World → Prop)
    (step : ∀ listed a w, Inv listed a w → ∀ i ∈ Region.ready .any ops listed, wpOp P ops Q i (Inv (listed.setIfInBounds i true)) a w)
    (done : ∀ listed a w, Inv listed a w → Region.ready .any ops listed = [] → Q .normal a w) (h0 : Inv (Array.replicate ops.size false) a w.drew) : (Code.region id ops true).wp P Q a w :=
  wp_region_any hm (wpAny_inv Inv step done ops.size _ a _ (by simp) h0)
end Go.Proofs.YtaockngppbeanaaGreatDoor

namespace Go.Proofs.YtaockngppbeanaaGreatDoor
open Go.RowKit
variable {Q : Exit → Act → World → Prop} {K : Act → World → Prop} {a : Act} {w : World} {ops : Array Oper} {ty : TypeId} {ps : String} {af : Array Edge} {i d : Nat}

theorem op_plain {P : Program} {o : Oper} (h : ops[i]? = some o) (hg : o.guard = none) (hw : o.wp P a w K Q) : wpOp P ops Q i K a w := by
  unfold wpOp
  rw [h]
  have : Region.wanted o (yielded ops a.tmps) = true := by unfold Region.wanted; rw [hg]
  simp only [this, if_true]
  exact Or.inl hw

theorem eval_tmp {x : Nat} {v : Value} (h : a.tmps[x]? = some v) : a.eval (.tmp x) = v := by
  show a.tmps.getD x undef = v
  simp [Array.getD_eq_getD_getElem?, h]

theorem op_move {x : Nat} {v : Value} (h : ops[i]? = some ⟨some d, .move (.tmp x), ty, ps, af, none⟩) (hx : a.tmps[x]? = some v) (hk : K (a.put (some d) v) w) : wpOp Tryz.prog ops Q i K a w := by
  have e := eval_tmp hx
  refine op_plain h rfl ?_
  show K (a.put (some d) (a.eval (.tmp x))) w
  rw [e]
  exact hk

set_option maxRecDepth 100000 in
set_option maxHeartbeats 1000000 in
theorem op_load {x : Nat} {b : Nat} {v0 v1 v2 v3 v4 v5 : Value} (h : ops[i]? = some ⟨some d, .load 26 (.tmp x), ty, ps, af, none⟩) (hx : a.tmps[x]? = some (.pointer (some ⟨b, 0, none⟩))) (hm : w.heap[b]? = some (.cells #[v0, v1, v2, v3, v4, v5] 26)) (hk : K (a.put (some d) (.agg #[v0, v1, v2, v3, v4, v5])) w) : wpOp Tryz.prog ops Q i K a w := by
  refine op_plain h rfl ?_
  obtain ⟨p0, p1, p2, p3, p4, p5⟩ := cells6 hm
  show Oper.upon _ _ a K Q ((do let v ← Instr.loadAt 26 (a.eval (.tmp x)); pure (Next.value v) : Sem Next).run _ w)
  rw [eval_tmp hx]
  simp [go_sem, p0, p1, p2, p3, p4, p5]
  exact hk

set_option maxRecDepth 100000 in
set_option maxHeartbeats 1000000 in
theorem op_call11 {x : Nat} {v1 : Value} {ts : Array TypeId} (h : ops[i]? = some ⟨some d, .call { callee := .value (.func 11), args := #[.tmp x], argTypes := ts }, ty, ps, af, none⟩) (hx : a.tmps[x]? = some v1) (hc : Calls Tryz.prog 11 #[v1] w fun e w' => ∃ v, e = .returned v ∧ K (a.put (some d) v) w') : wpOp Tryz.prog ops Q i K a w := by
  refine op_plain h rfl ?_
  show Oper.upon _ _ a K Q ((do let d ← resolve a.eval { callee := .value (.func 11), args := #[.tmp x], argTypes := ts } ty; invoke d.target d.args : Sem Next).run _ w)
  simp [go_sem, hx]
  refine Calls.mono hc ?_
  rintro e w' ⟨v, rfl, hk⟩
  exact hk

set_option maxRecDepth 100000 in
set_option maxHeartbeats 1000000 in
theorem op_call12 {x y : Nat} {v1 v2 : Value} {ts : Array TypeId} (h : ops[i]? = some ⟨some d, .call { callee := .value (.func 12), args := #[.tmp x, .tmp y], argTypes := ts }, ty, ps, af, none⟩) (hx : a.tmps[x]? = some v1) (hy : a.tmps[y]? = some v2) (hc : Calls Tryz.prog 12 #[v1, v2] w fun e w' => ∃ v, e = .returned v ∧ K (a.put (some d) v) w') : wpOp Tryz.prog ops Q i K a w := by
  refine op_plain h rfl ?_
  show Oper.upon _ _ a K Q ((do let d ← resolve a.eval { callee := .value (.func 12), args := #[.tmp x, .tmp y], argTypes := ts } ty; invoke d.target d.args : Sem Next).run _ w)
  simp [go_sem, hx, hy]
  refine Calls.mono hc ?_
  rintro e w' ⟨v, rfl, hk⟩
  exact hk

set_option maxRecDepth 100000 in
set_option maxHeartbeats 1000000 in
theorem op_call13 {x y : Nat} {v1 v2 : Value} {ts : Array TypeId} (h : ops[i]? = some ⟨some d, .call { callee := .value (.func 13), args := #[.tmp x, .tmp y], argTypes := ts }, ty, ps, af, none⟩) (hx : a.tmps[x]? = some v1) (hy : a.tmps[y]? = some v2) (hc : Calls Tryz.prog 13 #[v1, v2] w fun e w' => ∃ v, e = .returned v ∧ K (a.put (some d) v) w') : wpOp Tryz.prog ops Q i K a w := by
  refine op_plain h rfl ?_
  show Oper.upon _ _ a K Q ((do let d ← resolve a.eval { callee := .value (.func 13), args := #[.tmp x, .tmp y], argTypes := ts } ty; invoke d.target d.args : Sem Next).run _ w)
  simp [go_sem, hx, hy]
  refine Calls.mono hc ?_
  rintro e w' ⟨v, rfl, hk⟩
  exact hk

set_option maxRecDepth 100000 in
set_option maxHeartbeats 1000000 in
theorem op_alloc (h : ops[i]? = some ⟨some d, .alloc 34, ty, ps, af, none⟩) (hk : K (a.put (some d) (.pointer (some ⟨w.heap.size, 0, none⟩))) (w.alloc (.cells #[.int .i64 0, .int .i64 0, .string ⟨#[]⟩, .slice none 0 0, .slice none 0 0, .slice none 0 0, .int .i64 0] 34))) : wpOp Tryz.prog ops Q i K a w := by
  refine op_plain h rfl ?_
  show Oper.upon _ _ a K Q ((do let v ← Instr.alloc 34 true (.tuple #[]); pure (Next.value v) : Sem Next).run _ w)
  simp [go_sem]
  exact hk

/-- The world with a result written into a block. -/
def put34 (w : World) (b : Nat) (s : ByteArray) : World := (((((((w.setCell ⟨b, 0, none⟩ (.int .i64 4)).setCell ⟨b, 1, none⟩ (.int .i64 0)).setCell ⟨b, 2, none⟩ (.string s)).setCell ⟨b, 3, none⟩ (.slice none 0 0)).setCell ⟨b, 4, none⟩ (.slice none 0 0)).setCell ⟨b, 5, none⟩ (.slice none 0 0)).setCell ⟨b, 6, none⟩ (.int .i64 0))
def zero34 : Obj := .cells #[.int .i64 0, .int .i64 0, .string ⟨#[]⟩, .slice none 0 0, .slice none 0 0, .slice none 0 0, .int .i64 0] 34
def obj34 (s : ByteArray) : Obj := .cells #[.int .i64 4, .int .i64 0, .string s, .slice none 0 0, .slice none 0 0, .slice none 0 0, .int .i64 0] 34

set_option maxRecDepth 100000 in
set_option maxHeartbeats 1000000 in
theorem op_store {x y : Nat} {b : Nat} {s : ByteArray} (h : ops[i]? = some ⟨none, .store 34 (.tmp x) (.tmp y), ty, ps, af, none⟩) (hx : a.tmps[x]? = some (.pointer (some ⟨b, 0, none⟩))) (hy : a.tmps[y]? = some (resT s)) (hm : w.heap[b]? = some zero34) (hk : K a (put34 w b s)) : wpOp Tryz.prog ops Q i K a w := by
  refine op_plain h rfl ?_
  show Oper.upon _ _ a K Q ((do Instr.storeAt 34 (a.eval (.tmp x)) (a.eval (.tmp y)); pure Next.skip : Sem Next).run _ w)
  rw [eval_tmp hx, eval_tmp hy]
  unfold resT
  have q0 := cell_of_block hm
  have q00 := q0 0
  have q01 := q0 1
  have q02 := q0 2
  have q03 := q0 3
  have q04 := q0 4
  have q05 := q0 5
  have q06 := q0 6
  simp only [List.getElem?_toArray, List.getElem?_cons_succ, List.getElem?_cons_zero] at q00 q01 q02 q03 q04 q05 q06
  simp [go_sem, q00, q01, q02, q03, q04, q05, q06]
  exact hk
theorem put34_block {w : World} {b : Nat} {s : ByteArray} (hm : w.heap[b]? = some zero34) : (put34 w b s).heap[b]? = some (obj34 s) := set7 _ _ _ _ _ _ _ hm
theorem put34_below {w0 w : World} {B b : Nat} {s : ByteArray} (h : Below B w0 w) (hb : B ≤ b) : Below B w0 (put34 w b s) :=
  ((((((h.setCell hb _).setCell hb _).setCell hb _).setCell hb _).setCell hb _).setCell hb _).setCell hb _
theorem put34_other {w : World} {b c : Nat} {s : ByteArray} (h : c ≠ b) : (put34 w b s).heap[c]? = w.heap[c]? := by
  unfold put34
  repeat rw [Below.heap_setCell _ _ _ _ h]
end Go.Proofs.YtaockngppbeanaaGreatDoor

namespace Go.Proofs.YtaockngppbeanaaGreatDoor
open Go.RowKit

/-- Does operation i wait on operation j? -/
def depOk (ops : Array Oper) (i j : Nat) : Bool := ((ops[i]?).map fun o => o.after.any fun e => Region.binds .any e && e.on == j).getD false
/-- Does each wait on earlier ones alone? -/
def backOk (ops : Array Oper) : Bool := (List.range ops.size).all fun i => ((ops[i]?).map fun o => o.after.all fun e => decide (e.on < i)).getD true

theorem ready_dep {ops : Array Oper} {L : Array Bool} {i j : Nat} (h : i ∈ Region.ready .any ops L) (hd : depOk ops i j = true) : L.getD j false = true := by
  unfold Region.ready at h
  have h2 := (List.mem_filter.1 h).2
  rw [Bool.and_eq_true] at h2
  have h3 := h2.2
  unfold depOk at hd
  cases e : ops[i]? with
  | none => rw [e] at hd; simp at hd
  | some o =>
    rw [e] at hd h3
    simp only [Option.map_some, Option.getD_some] at hd h3
    obtain ⟨k, hk, he⟩ := Array.any_eq_true.1 hd
    have := Array.all_eq_true.1 h3 k hk
    rw [Bool.and_eq_true] at he
    rw [he.1] at this
    simp only [Bool.not_true, Bool.false_or] at this
    rw [← beq_iff_eq.1 he.2]
    exact this

theorem all_listed {ops : Array Oper} {L : Array Bool} (hz : L.size = ops.size) (hb : backOk ops = true) (hr : Region.ready .any ops L = []) : ∀ i, i < ops.size → L.getD i false = true := by
  intro i
  induction i using Nat.strongRecOn with
  | _ i ih =>
    intro hi
    by_cases hl : L.getD i false = true
    · exact hl
    exfalso
    have hm : i ∈ Region.ready .any ops L := by
      unfold Region.ready
      refine List.mem_filter.2 ⟨List.mem_range.2 hi, ?_⟩
      have e1 : ops[i]? = some ops[i] := Array.getElem?_eq_getElem hi
      have e2 : L[i]? = some L[i] := Array.getElem?_eq_getElem (by omega)
      rw [e1]
      simp only [Option.map_some, Option.getD_some, Bool.and_eq_true]
      constructor
      · simp only [Array.getD_eq_getD_getElem?, e2, Option.getD_some] at hl ⊢
        simpa using hl
      · rw [Array.all_eq_true]
        intro k hk
        have hbk := List.all_eq_true.1 hb i (List.mem_range.2 hi)
        rw [e1] at hbk
        simp only [Option.map_some, Option.getD_some] at hbk
        have := of_decide_eq_true (Array.all_eq_true.1 hbk k hk)
        rw [ih _ this (by omega)]
        simp
    rw [hr] at hm
    cases hm

structure Par where
  w0 : World
  b5 : Nat
  g : Nat
  g' : Nat
  c : Nat
  c' : Nat
  A : List ByteArray
  B : List ByteArray
  s : ByteArray
  rA : ByteArray
  rB : ByteArray
  rC : ByteArray

def Blk (w : World) (B : Nat) (v : Value) (o : Obj) : Prop := ∃ p, v = .pointer (some ⟨p, 0, none⟩) ∧ B ≤ p ∧ w.heap[p]? = some o
def slotOf (i : Nat) : Nat := if i < 14 then 72 + i else i

/-- The block of a result: as made, or written. -/
def cont (b : Bool) (s : ByteArray) : Obj := if b = true then obj34 s else zero34

/-- What an operation's slot holds. -/
def Good (P : Par) (i : Nat) (v : Value) : Prop :=
  match i with
  | 0 => v = .slice (some ⟨P.g, 0, none⟩) P.A.length P.c
  | 8 => v = .slice (some ⟨P.g, 0, none⟩) P.A.length P.c
  | 4 => v = .slice (some ⟨P.g', 0, none⟩) P.B.length P.c'
  | 9 => v = .slice (some ⟨P.g', 0, none⟩) P.B.length P.c'
  | 1 => v = listV (some ⟨P.g, 0, none⟩) P.A.length P.c
  | 5 => v = listV (some ⟨P.g', 0, none⟩) P.B.length P.c'
  | 2 => v = textV P.s
  | 6 => v = textV P.s
  | 12 => v = textV P.s
  | 3 => v = resT P.rA
  | 7 => v = resT P.rB
  | 13 => v = resT P.rC
  | _ => True

/-- .. and in the world. -/
def Lies (P : Par) (L : Array Bool) (i : Nat) (v : Value) (w : World) : Prop :=
  match i with
  | 10 => L.getD 17 false = false → ∃ a c, v = .slice a (P.A ++ P.B).length c ∧ w.ownsRow P.w0.heap.size 26 6 (.slice a (P.A ++ P.B).length c) (P.A ++ P.B).length (textsC (P.A ++ P.B))
  | 11 => L.getD 17 false = false → ∃ a c, v = listV a (P.A ++ P.B).length c ∧ w.ownsRow P.w0.heap.size 26 6 (.slice a (P.A ++ P.B).length c) (P.A ++ P.B).length (textsC (P.A ++ P.B))
  | 14 => Blk w P.w0.heap.size v (cont (L.getD 17 false) P.rA)
  | 15 => Blk w P.w0.heap.size v (cont (L.getD 18 false) P.rB)
  | 16 => Blk w P.w0.heap.size v (cont (L.getD 19 false) P.rC)
  | _ => True

theorem Blk.keep {w w' : World} {B : Nat} {v : Value} {o : Obj} (h : Blk w B v o) (hb : Below w.heap.size w w') : Blk w' B v o := by
  obtain ⟨p, e, h1, h2⟩ := h
  exact ⟨p, e, h1, (hb.block p (Array.getElem?_eq_some_iff.1 h2).1).trans h2⟩

structure Fk (P : Par) (L : Array Bool) (a : Act) (w : World) : Prop where
  ls : L.size = 20
  sz : a.tmps.size = 108
  df : a.defers = []
  t2 : a.tmps[2]? = some (.string P.s)
  t7 : a.tmps[7]? = some (.slice (some ⟨P.g, 0, none⟩) P.A.length P.c)
  t8 : a.tmps[8]? = some (.slice (some ⟨P.g', 0, none⟩) P.B.length P.c')
  t13 : a.tmps[13]? = some (.pointer (some ⟨P.b5, 0, none⟩))
  bl : Below P.w0.heap.size P.w0 w
  good : ∀ i, i < 17 → L.getD i false = true → ∃ v, a.tmps[slotOf i]? = some v ∧ Good P i v ∧ Lies P L i v w
  apart : ∀ i j, 14 ≤ i → i < j → j < 17 → L.getD i false = true → L.getD j false = true → a.tmps[i]? ≠ a.tmps[j]?
  w17 : L.getD 17 false = true → L.getD 14 false = true ∧ L.getD 13 false = true ∧ L.getD 11 false = true ∧ L.getD 10 false = true
  w18 : L.getD 18 false = true → L.getD 15 false = true
  w19 : L.getD 19 false = true → L.getD 16 false = true

theorem getD_same {L : Array Bool} {i : Nat} (h : i < L.size) : (L.setIfInBounds i true).getD i false = true := by
  simp [Array.getD_eq_getD_getElem?, h]
theorem getD_other {L : Array Bool} {i j : Nat} (h : i ≠ j) : (L.setIfInBounds i true).getD j false = L.getD j false := by
  simp [Array.getD_eq_getD_getElem?, h]
theorem put_same {a : Act} {d : Nat} {v : Value} (h : d < a.tmps.size) : (a.put (some d) v).tmps[d]? = some v := by
  show (a.tmps.setIfInBounds d v)[d]? = _
  simp [h]
theorem put_other {a : Act} {d e : Nat} {v : Value} (h : d ≠ e) : (a.put (some d) v).tmps[e]? = a.tmps[e]? := by
  show (a.tmps.setIfInBounds d v)[e]? = _
  simp [h]

theorem slot_lt {i : Nat} (h : i < 17) : slotOf i < 108 := by unfold slotOf; split <;> omega
theorem slot_ne {i j : Nat} (h : i < 17) (hj : j < 17) (hn : i ≠ j) : slotOf i ≠ slotOf j := by unfold slotOf; split <;> split <;> omega
theorem slot_free {i k : Nat} (h : i < 17) (hk : k < 14) : slotOf i ≠ k := by unfold slotOf; split <;> omega

theorem Lies.keep {P : Par} {L L' : Array Bool} {i : Nat} {v : Value} {w w' : World} (hi : i < 17) (h : Lies P L i v w) (hb : Below w.heap.size w w') (e17 : L'.getD 17 false = L.getD 17 false) (e18 : L'.getD 18 false = L.getD 18 false) (e19 : L'.getD 19 false = L.getD 19 false) : Lies P L' i v w' := by
  have hc : i < 10 ∨ i = 10 ∨ i = 11 ∨ i = 12 ∨ i = 13 ∨ i = 14 ∨ i = 15 ∨ i = 16 := by omega
  rcases hc with hc | rfl | rfl | rfl | rfl | rfl | rfl | rfl
  · unfold Lies
    split <;> first | trivial | omega
  · intro e
    obtain ⟨a, c, e1, ho⟩ := (show L.getD 17 false = false → _ from h) (e17 ▸ e)
    exact ⟨a, c, e1, ownsRow_keep ho hb⟩
  · intro e
    obtain ⟨a, c, e1, ho⟩ := (show L.getD 17 false = false → _ from h) (e17 ▸ e)
    exact ⟨a, c, e1, ownsRow_keep ho hb⟩
  · trivial
  · trivial
  · show Blk w' P.w0.heap.size v (cont (L'.getD 17 false) P.rA)
    rw [e17]
    exact Blk.keep (show Blk w P.w0.heap.size v (cont (L.getD 17 false) P.rA) from h) hb
  · show Blk w' P.w0.heap.size v (cont (L'.getD 18 false) P.rB)
    rw [e18]
    exact Blk.keep (show Blk w P.w0.heap.size v (cont (L.getD 18 false) P.rB) from h) hb
  · show Blk w' P.w0.heap.size v (cont (L'.getD 19 false) P.rC)
    rw [e19]
    exact Blk.keep (show Blk w P.w0.heap.size v (cont (L.getD 19 false) P.rC) from h) hb

theorem Lies.blk {P : Par} {L : Array Bool} {j : Nat} {v : Value} {w : World} (h : Lies P L j v w) (h1 : 14 ≤ j) (h2 : j < 17) : ∃ o, Blk w P.w0.heap.size v o := by
  have hc : j = 14 ∨ j = 15 ∨ j = 16 := by omega
  rcases hc with rfl | rfl | rfl <;> exact ⟨_, h⟩

theorem Fk.step {P : Par} {L : Array Bool} {a : Act} {w w' : World} (h : Fk P L a w) (i : Nat) (hi : i < 17) (hl : L.getD i false = false) {v : Value} (hb : Below w.heap.size w w') (hg : Good P i v) (hli : Lies P L i v w') (hn : 14 ≤ i → v = .pointer (some ⟨w.heap.size, 0, none⟩)) :
    Fk P (L.setIfInBounds i true) (a.put (some (slotOf i)) v) w' := by
  have hs := slot_lt hi
  have up : ∀ j, i ≠ j → L.getD j false = true → (L.setIfInBounds i true).getD j false = true := fun j hj e => by rw [getD_other hj]; exact e
  have lb : ∀ j, L.getD j false = true → (L.setIfInBounds i true).getD j false = true := fun j e => by
    by_cases hij : i = j
    · subst hij; rw [hl] at e; cases e
    · exact up j hij e
  have hptr : ∀ j, 14 ≤ j → j < 17 → L.getD j false = true → a.tmps[j]? ≠ some (.pointer (some ⟨w.heap.size, 0, none⟩)) := by
    intro j h1 h2 h3 e
    obtain ⟨u, e1, _, g1⟩ := h.good j h2 h3
    have es : slotOf j = j := by unfold slotOf; rw [if_neg (by omega)]
    rw [es, e] at e1
    injection e1 with e1
    subst e1
    obtain ⟨o, p, e2, _, h5⟩ := g1.blk h1 h2
    injection e2 with e2
    injection e2 with e2
    injection e2 with e2
    subst e2
    have := (Array.getElem?_eq_some_iff.1 h5).1
    omega
  refine ⟨by rw [Array.size_setIfInBounds]; exact h.ls, ?_, h.df, ?_, ?_, ?_, ?_, h.bl.trans (hb.mono h.bl.size), ?_, ?_, ?_, ?_, ?_⟩
  · show (a.tmps.setIfInBounds _ _).size = 108
    rw [Array.size_setIfInBounds]; exact h.sz
  · rw [put_other (slot_free hi (by decide))]; exact h.t2
  · rw [put_other (slot_free hi (by decide))]; exact h.t7
  · rw [put_other (slot_free hi (by decide))]; exact h.t8
  · rw [put_other (slot_free hi (by decide))]; exact h.t13
  · intro j hj hlj
    by_cases hij : i = j
    · subst hij
      exact ⟨v, put_same (by rw [h.sz]; exact hs), hg, Lies.keep hi hli (Below.refl _ _) (getD_other (by omega)) (getD_other (by omega)) (getD_other (by omega))⟩
    · rw [getD_other hij] at hlj
      obtain ⟨u, e, g, l⟩ := h.good j hj hlj
      exact ⟨u, by rw [put_other (slot_ne hi hj hij)]; exact e, g, Lies.keep hj l hb (getD_other (by omega)) (getD_other (by omega)) (getD_other (by omega))⟩
  · intro x y hx hxy hy lx ly
    by_cases hix : i = x
    · subst hix
      rw [getD_other (by omega)] at ly
      have es : slotOf i = i := by unfold slotOf; rw [if_neg (by omega)]
      rw [es, put_same (by rw [h.sz]; omega), put_other (by omega), hn hx]
      exact fun e => hptr y (by omega) hy ly e.symm
    · by_cases hiy : i = y
      · subst hiy
        rw [getD_other (by omega)] at lx
        have es : slotOf i = i := by unfold slotOf; rw [if_neg (by omega)]
        rw [es, put_same (by rw [h.sz]; omega), put_other (by omega), hn (by omega)]
        exact hptr x hx (by omega) lx
      · rw [getD_other hix] at lx
        rw [getD_other hiy] at ly
        have esx : slotOf x = x := by unfold slotOf; rw [if_neg (by omega)]
        have esy : slotOf y = y := by unfold slotOf; rw [if_neg (by omega)]
        rw [put_other (by have := slot_ne hi (show x < 17 by omega) hix; rw [esx] at this; exact this), put_other (by have := slot_ne hi hy hiy; rw [esy] at this; exact this)]
        exact h.apart x y hx hxy hy lx ly
  · intro e
    rw [getD_other (by omega)] at e
    obtain ⟨q1, q2, q3, q4⟩ := h.w17 e
    exact ⟨lb _ q1, lb _ q2, lb _ q3, lb _ q4⟩
  · intro e
    rw [getD_other (by omega)] at e
    exact lb _ (h.w18 e)
  · intro e
    rw [getD_other (by omega)] at e
    exact lb _ (h.w19 e)

theorem Fk.store17 {P : Par} {L : Array Bool} {a : Act} {w : World} (h : Fk P L a w) (hl : L.getD 17 false = false) (hj : L.getD 14 false = true) (hr : L.getD 3 false = true) (h17 : (L.setIfInBounds 17 true).getD 17 false = true) (d13 : L.getD 13 false = true) (d11 : L.getD 11 false = true) (d10 : L.getD 10 false = true) : ∃ p, a.tmps[14]? = some (.pointer (some ⟨p, 0, none⟩)) ∧ a.tmps[75]? = some (resT P.rA) ∧ w.heap[p]? = some zero34 ∧ Fk P (L.setIfInBounds 17 true) a (put34 w p P.rA) := by
  obtain ⟨_, ej, _, p, rfl, p1, p2⟩ := h.good 14 (by decide) hj
  obtain ⟨_, er, rfl, _⟩ := h.good 3 (by decide) hr
  have ej' : a.tmps[14]? = some (.pointer (some ⟨p, 0, none⟩)) := ej
  have p2' : w.heap[p]? = some zero34 := by rw [hl] at p2; exact p2
  have ne : ∀ x u o, 14 ≤ x → x < 17 → x ≠ 14 → L.getD x false = true → a.tmps[x]? = some u → Blk w P.w0.heap.size u o → Blk (put34 w p P.rA) P.w0.heap.size u o := by
    rintro x u o h1 h2 h3 h4 h5 ⟨q, rfl, q1, q2⟩
    refine ⟨q, rfl, q1, ?_⟩
    have hn : q ≠ p := by
      rintro rfl
      rcases Nat.lt_or_ge x 14 with hx | hx
      · exact h.apart x 14 h1 hx (by decide) h4 hj (by rw [h5, ej'])
      · exact h.apart 14 x (by decide) (by omega) h2 hj h4 (by rw [h5, ej'])
    rw [put34_other hn]; exact q2
  refine ⟨p, ej', er, p2', by rw [Array.size_setIfInBounds]; exact h.ls, h.sz, h.df, h.t2, h.t7, h.t8, h.t13, put34_below h.bl p1, ?_, ?_, ?_, ?_, ?_⟩
  · intro i hi hli
    rw [getD_other (by omega)] at hli
    obtain ⟨u, e, g, l⟩ := h.good i hi hli
    refine ⟨u, e, g, ?_⟩
    have hc : i < 10 ∨ i = 10 ∨ i = 11 ∨ i = 12 ∨ i = 13 ∨ i = 14 ∨ i = 15 ∨ i = 16 := by omega
    rcases hc with hc | rfl | rfl | rfl | rfl | rfl | rfl | rfl
    · unfold Lies
      split <;> first | trivial | omega
    · intro e; rw [h17] at e; cases e
    · intro e; rw [h17] at e; cases e
    · trivial
    · trivial
    · have eu : u = .pointer (some ⟨p, 0, none⟩) := by rw [show slotOf 14 = 14 from rfl, ej'] at e; injection e with e; exact e.symm
      subst eu
      show Blk _ _ _ (cont ((L.setIfInBounds 17 true).getD 17 false) P.rA)
      rw [getD_same (by rw [h.ls]; decide)]
      exact ⟨p, rfl, p1, put34_block p2'⟩
    · show Blk _ _ _ (cont ((L.setIfInBounds 17 true).getD 18 false) P.rB)
      rw [getD_other (by decide)]
      exact ne 15 u _ (by decide) (by decide) (by decide) hli e l
    · show Blk _ _ _ (cont ((L.setIfInBounds 17 true).getD 19 false) P.rC)
      rw [getD_other (by decide)]
      exact ne 16 u _ (by decide) (by decide) (by decide) hli e l
  · intro x y hx hxy hy lx ly
    rw [getD_other (by omega)] at lx ly
    exact h.apart x y hx hxy hy lx ly
  · intro _
    exact ⟨by rw [getD_other (by decide)]; exact hj, by rw [getD_other (by decide)]; exact d13, by rw [getD_other (by decide)]; exact d11, by rw [getD_other (by decide)]; exact d10⟩
  · intro e
    rw [getD_other (by decide)] at e ⊢
    exact h.w18 e
  · intro e
    rw [getD_other (by decide)] at e ⊢
    exact h.w19 e

theorem Fk.store18 {P : Par} {L : Array Bool} {a : Act} {w : World} (h : Fk P L a w) (hl : L.getD 18 false = false) (hj : L.getD 15 false = true) (hr : L.getD 7 false = true) (h17 : (L.setIfInBounds 18 true).getD 17 false = true) : ∃ p, a.tmps[15]? = some (.pointer (some ⟨p, 0, none⟩)) ∧ a.tmps[79]? = some (resT P.rB) ∧ w.heap[p]? = some zero34 ∧ Fk P (L.setIfInBounds 18 true) a (put34 w p P.rB) := by
  obtain ⟨_, ej, _, p, rfl, p1, p2⟩ := h.good 15 (by decide) hj
  obtain ⟨_, er, rfl, _⟩ := h.good 7 (by decide) hr
  have ej' : a.tmps[15]? = some (.pointer (some ⟨p, 0, none⟩)) := ej
  have p2' : w.heap[p]? = some zero34 := by rw [hl] at p2; exact p2
  have ne : ∀ x u o, 14 ≤ x → x < 17 → x ≠ 15 → L.getD x false = true → a.tmps[x]? = some u → Blk w P.w0.heap.size u o → Blk (put34 w p P.rB) P.w0.heap.size u o := by
    rintro x u o h1 h2 h3 h4 h5 ⟨q, rfl, q1, q2⟩
    refine ⟨q, rfl, q1, ?_⟩
    have hn : q ≠ p := by
      rintro rfl
      rcases Nat.lt_or_ge x 15 with hx | hx
      · exact h.apart x 15 h1 hx (by decide) h4 hj (by rw [h5, ej'])
      · exact h.apart 15 x (by decide) (by omega) h2 hj h4 (by rw [h5, ej'])
    rw [put34_other hn]; exact q2
  refine ⟨p, ej', er, p2', by rw [Array.size_setIfInBounds]; exact h.ls, h.sz, h.df, h.t2, h.t7, h.t8, h.t13, put34_below h.bl p1, ?_, ?_, ?_, ?_, ?_⟩
  · intro i hi hli
    rw [getD_other (by omega)] at hli
    obtain ⟨u, e, g, l⟩ := h.good i hi hli
    refine ⟨u, e, g, ?_⟩
    have hc : i < 10 ∨ i = 10 ∨ i = 11 ∨ i = 12 ∨ i = 13 ∨ i = 14 ∨ i = 15 ∨ i = 16 := by omega
    rcases hc with hc | rfl | rfl | rfl | rfl | rfl | rfl | rfl
    · unfold Lies
      split <;> first | trivial | omega
    · intro e; rw [h17] at e; cases e
    · intro e; rw [h17] at e; cases e
    · trivial
    · trivial
    · show Blk _ _ _ (cont ((L.setIfInBounds 18 true).getD 17 false) P.rA)
      rw [getD_other (by decide)]
      exact ne 14 u _ (by decide) (by decide) (by decide) hli e l
    · have eu : u = .pointer (some ⟨p, 0, none⟩) := by rw [show slotOf 15 = 15 from rfl, ej'] at e; injection e with e; exact e.symm
      subst eu
      show Blk _ _ _ (cont ((L.setIfInBounds 18 true).getD 18 false) P.rB)
      rw [getD_same (by rw [h.ls]; decide)]
      exact ⟨p, rfl, p1, put34_block p2'⟩
    · show Blk _ _ _ (cont ((L.setIfInBounds 18 true).getD 19 false) P.rC)
      rw [getD_other (by decide)]
      exact ne 16 u _ (by decide) (by decide) (by decide) hli e l
  · intro x y hx hxy hy lx ly
    rw [getD_other (by omega)] at lx ly
    exact h.apart x y hx hxy hy lx ly
  · intro e
    rw [getD_other (by decide)] at e
    obtain ⟨q1, q2, q3, q4⟩ := h.w17 e
    exact ⟨by rw [getD_other (by decide)]; exact q1, by rw [getD_other (by decide)]; exact q2, by rw [getD_other (by decide)]; exact q3, by rw [getD_other (by decide)]; exact q4⟩
  · intro _
    rw [getD_other (by decide)]
    exact hj
  · intro e
    rw [getD_other (by decide)] at e ⊢
    exact h.w19 e

theorem Fk.store19 {P : Par} {L : Array Bool} {a : Act} {w : World} (h : Fk P L a w) (hl : L.getD 19 false = false) (hj : L.getD 16 false = true) (hr : L.getD 13 false = true) (h17 : (L.setIfInBounds 19 true).getD 17 false = true) : ∃ p, a.tmps[16]? = some (.pointer (some ⟨p, 0, none⟩)) ∧ a.tmps[85]? = some (resT P.rC) ∧ w.heap[p]? = some zero34 ∧ Fk P (L.setIfInBounds 19 true) a (put34 w p P.rC) := by
  obtain ⟨_, ej, _, p, rfl, p1, p2⟩ := h.good 16 (by decide) hj
  obtain ⟨_, er, rfl, _⟩ := h.good 13 (by decide) hr
  have ej' : a.tmps[16]? = some (.pointer (some ⟨p, 0, none⟩)) := ej
  have p2' : w.heap[p]? = some zero34 := by rw [hl] at p2; exact p2
  have ne : ∀ x u o, 14 ≤ x → x < 17 → x ≠ 16 → L.getD x false = true → a.tmps[x]? = some u → Blk w P.w0.heap.size u o → Blk (put34 w p P.rC) P.w0.heap.size u o := by
    rintro x u o h1 h2 h3 h4 h5 ⟨q, rfl, q1, q2⟩
    refine ⟨q, rfl, q1, ?_⟩
    have hn : q ≠ p := by
      rintro rfl
      rcases Nat.lt_or_ge x 16 with hx | hx
      · exact h.apart x 16 h1 hx (by decide) h4 hj (by rw [h5, ej'])
      · exact h.apart 16 x (by decide) (by omega) h2 hj h4 (by rw [h5, ej'])
    rw [put34_other hn]; exact q2
  refine ⟨p, ej', er, p2', by rw [Array.size_setIfInBounds]; exact h.ls, h.sz, h.df, h.t2, h.t7, h.t8, h.t13, put34_below h.bl p1, ?_, ?_, ?_, ?_, ?_⟩
  · intro i hi hli
    rw [getD_other (by omega)] at hli
    obtain ⟨u, e, g, l⟩ := h.good i hi hli
    refine ⟨u, e, g, ?_⟩
    have hc : i < 10 ∨ i = 10 ∨ i = 11 ∨ i = 12 ∨ i = 13 ∨ i = 14 ∨ i = 15 ∨ i = 16 := by omega
    rcases hc with hc | rfl | rfl | rfl | rfl | rfl | rfl | rfl
    · unfold Lies
      split <;> first | trivial | omega
    · intro e; rw [h17] at e; cases e
    · intro e; rw [h17] at e; cases e
    · trivial
    · trivial
    · show Blk _ _ _ (cont ((L.setIfInBounds 19 true).getD 17 false) P.rA)
      rw [getD_other (by decide)]
      exact ne 14 u _ (by decide) (by decide) (by decide) hli e l
    · show Blk _ _ _ (cont ((L.setIfInBounds 19 true).getD 18 false) P.rB)
      rw [getD_other (by decide)]
      exact ne 15 u _ (by decide) (by decide) (by decide) hli e l
    · have eu : u = .pointer (some ⟨p, 0, none⟩) := by rw [show slotOf 16 = 16 from rfl, ej'] at e; injection e with e; exact e.symm
      subst eu
      show Blk _ _ _ (cont ((L.setIfInBounds 19 true).getD 19 false) P.rC)
      rw [getD_same (by rw [h.ls]; decide)]
      exact ⟨p, rfl, p1, put34_block p2'⟩
  · intro x y hx hxy hy lx ly
    rw [getD_other (by omega)] at lx ly
    exact h.apart x y hx hxy hy lx ly
  · intro e
    rw [getD_other (by decide)] at e
    obtain ⟨q1, q2, q3, q4⟩ := h.w17 e
    exact ⟨by rw [getD_other (by decide)]; exact q1, by rw [getD_other (by decide)]; exact q2, by rw [getD_other (by decide)]; exact q3, by rw [getD_other (by decide)]; exact q4⟩
  · intro e
    rw [getD_other (by decide)] at e ⊢
    exact h.w18 e
  · intro _
    rw [getD_other (by decide)]
    exact hj

/-- What the region leaves. -/
def Forked (P : Par) (a : Act) (w : World) : Prop := a.tmps.size = 108 ∧ a.defers = [] ∧ a.tmps[2]? = some (.string P.s) ∧ Below P.w0.heap.size P.w0 w ∧ ∃ p q r, a.tmps[14]? = some (.pointer (some ⟨p, 0, none⟩)) ∧ a.tmps[15]? = some (.pointer (some ⟨q, 0, none⟩)) ∧ a.tmps[16]? = some (.pointer (some ⟨r, 0, none⟩)) ∧ w.heap[p]? = some (obj34 P.rA) ∧ w.heap[q]? = some (obj34 P.rB) ∧ w.heap[r]? = some (obj34 P.rC)

theorem Fk.done {P : Par} {L : Array Bool} {a : Act} {w : World} (h : Fk P L a w) (hall : ∀ i, i < 20 → L.getD i false = true) : Forked P a w := by
  obtain ⟨_, e14, _, p, rfl, p1, m1⟩ := h.good 14 (by decide) (hall 14 (by decide))
  obtain ⟨_, e15, _, q, rfl, q1, m2⟩ := h.good 15 (by decide) (hall 15 (by decide))
  obtain ⟨_, e16, _, r, rfl, r1, m3⟩ := h.good 16 (by decide) (hall 16 (by decide))
  rw [hall 17 (by decide)] at m1
  rw [hall 18 (by decide)] at m2
  rw [hall 19 (by decide)] at m3
  exact ⟨h.sz, h.df, h.t2, h.bl, p, q, r, e14, e15, e16, m1, m2, m3⟩
end Go.Proofs.YtaockngppbeanaaGreatDoor
