/- impl.mapToGo: a map as gojq takes it, in new memory; its keys rise. -/
import Derived.Test.YtaockngppbeanaaGreatDoorToList
import Derived.Maps.OwnOps
namespace Go.Proofs.YtaockngppbeanaaGreatDoor
open Go.RowKit
theorem findNow_none (k : ByteArray) : ∀ (es : List MapEntry) (i : Nat), (∀ e ∈ es, ∃ s, e.key = .string s ∧ s ≠ k) → Instr.findNow .string (.string k) es i = some none
  | [], _, _ => rfl
  | e :: es, i, h => by
    obtain ⟨s, hs, hne⟩ := h e (List.mem_cons_self ..)
    have ih := findNow_none k es (i + 1) (fun e he => h e (List.mem_cons_of_mem _ he))
    have : (k == s) = false := Bool.eq_false_iff.2 (fun e => hne ((MapKept.bytes_beq _ _).1 e).symm)
    simp [Instr.findNow, hs, Instr.sameNow, this, ih]

theorem run_mapUpdate_new {w : World} {r : Nat} {es : Array MapEntry} {clock : Nat} {k : ByteArray} {v : Value} (h : w.heap[r]? = some (.map es clock)) (hk : ∀ e ∈ es.toList, ∃ s, e.key = .string s ∧ s ≠ k) :
    (Instr.mapUpdate 74 (.map (some r)) (.string k) v).run Tryz.prog w = .ok () { w with heap := w.heap.setIfInBounds r (.map (es.push { key := .string k, val := v, born := clock }) (clock + 1)) } := by
  have hf := findNow_none k es.toList 0 hk
  simp [Instr.mapUpdate, run_underlying Tryz.underlying74, MapKept.run_getObj_map h, MapKept.run_checkKey (d := .string) Tryz.underlying9 (k := .string k) (by simp [MapKept.IsKey]), MapKept.run_findKey (d := .string) Tryz.underlying9 hf, MapKept.run_setObj_map _ h, Result.andThen]

theorem bytesLess_lt : ∀ (x y : List UInt8), Op.bytesLess x y = decide (x < y)
  | [], [] => by simp [Op.bytesLess]
  | _ :: _, [] => by simp [Op.bytesLess]
  | [], _ :: _ => by simp [Op.bytesLess]
  | a :: x, b :: y => by
    rw [Op.bytesLess, bytesLess_lt x y]
    simp only [List.cons_lt_cons_iff]
    by_cases h1 : a < b <;> by_cases h2 : a = b <;> by_cases h3 : x < y <;> simp [h1, h2, h3]
theorem lessB_trans {a b c : ByteArray} (h1 : lessB a b) (h2 : lessB b c) : lessB a c := by
  unfold lessB at *
  rw [bytesLess_lt] at *
  simp only [decide_eq_true_eq] at *
  exact List.lt_trans h1 h2
theorem lessB_ne {a b : ByteArray} (h : lessB a b) : a ≠ b := by
  intro e; subst e
  unfold lessB at h
  rw [bytesLess_lt] at h
  simp only [decide_eq_true_eq] at h
  exact List.lt_irrefl _ h
/-- Keys that rise, rise from any one to any later one. -/
theorem lessB_chain {ks : List ByteArray} (ord : ∀ i, i + 1 < ks.length → lessB (ks.getD i ByteArray.empty) (ks.getD (i + 1) ByteArray.empty)) :
    ∀ (d i : Nat), i + (d + 1) < ks.length → lessB (ks.getD i ByteArray.empty) (ks.getD (i + (d + 1)) ByteArray.empty)
  | 0, i, h => ord i h
  | d + 1, i, h => lessB_trans (lessB_chain ord d i (by omega)) (ord (i + (d + 1)) (by omega))

/-- A store of a new key into a map, as a law for the walk. -/
theorem wpList_mapUpdate_at {P : Program} {ops : Array Oper} {rest : List Oper} {o : Oper} {a : Act} {w w' : World} {Q : Exit → Act → World → Prop} (hg : o.guard = none) (t : TypeId) (m k x : Operand) (ho : o.op = .mapUpdate t m k x)
    (mv kv xv : Value) (e1 : a.eval m = mv) (e2 : a.eval k = kv) (e3 : a.eval x = xv) (hrun : (Instr.mapUpdate t mv kv xv).run P w = .ok () w') (hK : wpList P ops Q rest (a.put o.dst undef) w') : wpList P ops Q (o :: rest) a w := by
  refine wpList_plain hg fun K' hK' => ?_
  unfold Oper.wp
  subst e1 e2 e3
  simp [execOp, ho, hrun, Result.andThen]
  exact hK' _ _ hK

theorem ents_push (ks : List ByteArray) (V : Nat → Value) (k : Nat) (v : Value) :
    (ents ks V k).push { key := .string (ks.getD k ByteArray.empty), val := v, born := k } = ents ks (fun i => if i = k then v else V i) (k + 1) := by
  apply Array.ext_getElem?
  intro i
  unfold ents
  rw [Array.getElem?_push]
  simp only [List.size_toArray, List.length_map, List.length_range, List.getElem?_toArray, List.getElem?_map]
  by_cases h1 : i = k
  · subst h1
    rw [if_pos rfl, List.getElem?_range (by omega)]
    simp
  · rw [if_neg h1]
    by_cases h2 : i < k
    · rw [List.getElem?_range h2, List.getElem?_range (by omega)]
      simp [h1]
    · rw [List.getElem?_eq_none (by simp; omega), List.getElem?_eq_none (by simp; omega)]
      rfl

/-- A map in block r that is filled up to k. -/
def MFilled (wr : World) (r k : Nat) (ks : List ByteArray) (vs : List JV) : Prop :=
  ∃ V : Nat → Value, wr.heap[r]? = some (.map (ents ks V k) k) ∧ ∀ q, q < k → GRep wr (r + 1) wr.heap.size (V q) (vs.getD q dfl)

theorem MFilled.upd {wr w7 : World} {r k : Nat} {ks : List ByteArray} {vs : List JV} {v : Value} (h : MFilled wr r k ks vs) (hb : Below wr.heap.size wr w7) (hlt : r < wr.heap.size) (hk : k < ks.length)
    (ord : ∀ i, i + 1 < ks.length → lessB (ks.getD i ByteArray.empty) (ks.getD (i + 1) ByteArray.empty))
    (hv : GRep w7 wr.heap.size w7.heap.size v (vs.getD k dfl)) :
    ∃ w8, (Instr.mapUpdate 74 (.map (some r)) (.string (ks.getD k ByteArray.empty)) v).run Tryz.prog w7 = .ok () w8 ∧ MFilled w8 r (k + 1) ks vs ∧ Below r w7 w8 ∧ w8.heap.size = w7.heap.size := by
  obtain ⟨V, h1, h2⟩ := h
  have h7 := (hb.block r hlt).trans h1
  refine ⟨_, run_mapUpdate_new h7 ?_, ⟨fun i => if i = k then v else V i, ?_, ?_⟩, ?_, ?_⟩
  · intro e he
    simp only [ents, List.mem_map, List.mem_range] at he
    obtain ⟨i, hi, rfl⟩ := he
    refine ⟨_, rfl, ?_⟩
    obtain ⟨d, rfl⟩ : ∃ d, k = i + (d + 1) := ⟨k - i - 1, by omega⟩
    exact lessB_ne (lessB_chain ord d i hk)
  · show (w7.heap.setIfInBounds r _)[r]? = _
    rw [(MapKept.heap_set h7).1, ents_push]
  · intro q hq
    have hs : (w7.heap.setIfInBounds r (.map ((ents ks V k).push { key := .string (ks.getD k ByteArray.empty), val := v, born := k }) (k + 1))).size = w7.heap.size := by simp
    show GRep _ (r + 1) (w7.heap.setIfInBounds r _).size _ _
    rw [hs]
    by_cases e : q = k
    · subst e
      simp only [if_true]
      exact hv.keep (SameOn.putObj _ _ _ (Or.inl (by omega))) (by omega) (Nat.le_refl _)
    · simp only [e, if_false]
      exact (h2 q (by omega)).keep ((SameOn.of_below hb (Nat.le_refl _)).trans (SameOn.putObj _ _ _ (Or.inl (by omega)))) (Nat.le_refl _) hb.size
  · exact ⟨rfl, rfl, rfl, by simp, fun i hi => (MapKept.heap_set h7).2 i (by omega)⟩
  · simp

def RM (w : World) (ks : List ByteArray) (vs : List JV) (e : Ending) (w' : World) : Prop :=
  ∃ n, n = ks.length ∧ e = .returned (.tuple #[.map (some (w.heap.size + 1)), .bool true]) ∧ MFilled w' (w.heap.size + 1) n ks vs ∧ w.heap.size + 1 < w'.heap.size ∧ Below w.heap.size w w'

theorem run_makeMap_hint (n : Nat) (w : World) : (Instr.makeMap 74 (some (.int .i64 (n : Int)))).run Tryz.prog w = .ok (.map (some w.heap.size)) (w.alloc (.map #[] 0)) := by
  simp [Instr.makeMap, run_underlying Tryz.underlying74, asInt, asIntOf, Result.andThen]

theorem box6b {w wr : World} {x : VC} (hm : Below (w.heap.size + 1) (boxV w x) wr) :
    wr.cell? ⟨w.heap.size, 0, none⟩ = some (.int .i64 x.kind) ∧ wr.cell? ⟨w.heap.size, 1, none⟩ = some (.int .i64 x.half) ∧ wr.cell? ⟨w.heap.size, 2, none⟩ = some (.string x.text) ∧
    wr.cell? ⟨w.heap.size, 3, none⟩ = some (.slice x.la x.ln x.lc) ∧ wr.cell? ⟨w.heap.size, 4, none⟩ = some (.slice x.ka x.kn x.kc) ∧ wr.cell? ⟨w.heap.size, 5, none⟩ = some (.slice x.va x.vn x.vc) :=
  cells6 ((hm.block w.heap.size (by omega)).trans (heap_alloc_new _ _))

set_option maxRecDepth 100000 in
set_option maxHeartbeats 4000000 in
theorem mapToGo_walk (ks : List ByteArray) (vs : List JV) (x : VC) (V : Nat → VC) (B : Nat) (w : World) (hB : B ≤ w.heap.size) (hl : ks.length ≤ 400) (hkn : x.kn = ks.length) (hvn : x.vn = ks.length)
    (r2 : Row1 w B x.ka x.kn fun i => .string (ks.getD i ByteArray.empty)) (r3 : Row6 w B x.va x.vn V)
    (ord : ∀ i, i + 1 < ks.length → lessB (ks.getD i ByteArray.empty) (ks.getD (i + 1) ByteArray.empty))
    (hcall : ∀ (k : Nat) (wr : World), k < ks.length → Below w.heap.size w wr → Calls Tryz.prog 27 #[(V k).val] wr (RG wr (vs.getD k dfl))) :
    Calls Tryz.prog 59 #[x.val] w (RM w ks vs) := by
  have hfin : Hid (∀ w', MFilled w' (w.heap.size + 1) ks.length ks vs → w.heap.size + 1 < w'.heap.size → Below w.heap.size w w' → RM w ks vs (.returned (.tuple #[.map (some (w.heap.size + 1)), .bool true])) w') := fun w' h1 h2 h3 => ⟨_, rfl, rfl, h1, h2, h3⟩
  obtain ⟨POST, hP⟩ : ∃ P, RM w ks vs = P := ⟨_, rfl⟩
  rw [hP] at hfin ⊢
  clear hP
  have HO := Lib.hid ord
  obtain ⟨k1, f1, t1, la, ln, lc, ka, kn, kc, va, vn, vc⟩ := x
  simp only at hkn hvn r2 r3
  subst hkn hvn
  have Hup := fun (wr w7 : World) (k : Nat) (v : Value) (h : MFilled wr (w.heap.size + 1) k ks vs) (hb : Below wr.heap.size wr w7) (hlt : w.heap.size + 1 < wr.heap.size) (hk : k < ks.length) (hv : GRep w7 wr.heap.size w7.heap.size v (vs.getD k dfl)) => h.upd hb hlt hk HO.out hv
  obtain ⟨S, hS⟩ : ∃ S : Nat → ByteArray, ∀ i, S i = ks.getD i ByteArray.empty := ⟨_, fun _ => rfl⟩
  simp only [← hS] at r2 ord Hup
  clear HO hS
  have HO := Lib.hid ord; clear ord
  generalize hn : ks.length = n at *
  have hmk := run_makeMap_hint n
  go_enter Tryz.func59, Tryz.ntmps59
  go_wp2_with fail
  go_loopw [23] (fun i wr => ∃ k : Nat, k ≤ n ∧ i = .int .i64 k ∧ Below (w.heap.size + 1) (boxV w ⟨k1, f1, t1, la, ln, lc, ka, n, kc, va, n, vc⟩) wr ∧ w.heap.size + 1 < wr.heap.size ∧ MFilled wr (w.heap.size + 1) k ks vs) (fun i _ => n - (intOf i).toNat)
  case atStart => exact ⟨0, Nat.zero_le _, rfl, (Below.refl _ _).alloc (by simp) _, by simp, fun _ => .nilIface, by have := heap_alloc_new (boxV w ⟨k1, f1, t1, la, ln, lc, ka, n, kc, va, n, vc⟩) (.map #[] 0); rw [World.size_alloc] at this; exact this, fun q hq => by omega⟩
  case round =>
    obtain ⟨k, hk, rfl, hbx, hsz, hfil⟩ := hrel
    have hbw : Below w.heap.size w wr := ((Below.refl _ _).alloc (Nat.le_refl _) _).trans (hbx.mono (by omega))
    by_cases hlt : k < n
    · rcases r2 with r2 | ⟨bb, offb, hab, hlbb, r2⟩
      · omega
      rcases r3 with r3 | ⟨b, off, ha, hlb, r3⟩
      · omega
      have c6 := (hbw.cell (p := ⟨bb, offb + k, none⟩) (by show bb < _; omega)).trans (r2 k hlt)
      obtain ⟨c0, c1, c2, c3, c4, c5⟩ := ((r3 k hlt).keep (w' := wr) hbw (by omega))
      obtain ⟨d0, d1, d2, d3, d4, d5⟩ := box6b hbx
      have hc := hcall k
      have Hf := Lib.hid hfil; clear hfil
      have hltz : (k : Int) < (n : Int) := by omega
      by_cases hk0 : k = 0
      · have Hk0 := Lib.hid hk0
        have hk0z : ¬ (0 : Int) < (k : Int) := by omega
        clear hk0
        go_wp2_with fail
        refine (hc _ hlt hbw).mono ?_
        rintro e w7 ⟨v, rfl, hv, hb7⟩
        obtain ⟨w8, hrun, hf8, hb8, hs8⟩ := Hup wr w7 k v Hf.out hb7 hsz hlt hv
        have hb7s := hb7.size
        clear c0 c1 c2 c3 c4 c5 c6 d0 d1 d2 d3 d4 d5 Hf
        go_wp2_with (at_mapUpdate; refine wpList_mapUpdate_at rfl 74 _ _ _ rfl _ _ _ rfl rfl rfl hrun ?_)
        have hrel : ∃ k' : Nat, k' ≤ n ∧ Value.int .i64 ((k : Int) + 1) = .int .i64 k' ∧ Below (w.heap.size + 1) (boxV w ⟨k1, f1, t1, la, ln, lc, ka, n, kc, va, n, vc⟩) w8 ∧ w.heap.size + 1 < w8.heap.size ∧ MFilled w8 (w.heap.size + 1) k' ks vs :=
          ⟨k + 1, by omega, by go_num, (hbx.trans (hb7.mono (by omega))).trans hb8, by omega, hf8⟩
        go_roundw
        case rel => first | exact hrel | ((repeat apply Exists.intro); exact ⟨hrel, by first | rfl | (rw [ha, hab]; try rfl) | (rw [hab]; try rfl) | (rw [ha]; try rfl)⟩)
        case measure => simp [intOf]; omega
      · have hk0z : (0 : Int) < (k : Int) := by omega
        have c7 := (hbw.cell (p := ⟨bb, offb + (k - 1), none⟩) (by show bb < _; omega)).trans (r2 (k - 1) (by omega))
        have hw1 : IntKind.i64.wrap ((k : Int) - 1) = (k : Int) - 1 := IntWalk.i64_in _ (by omega)
        have hw2 : (0 : Int) ≤ (k : Int) - 1 := by omega
        have hw3 : ((k : Int) - 1).toNat = k - 1 := by omega
        have hw4 : (k : Int) - 1 < (n : Int) := by omega
        have hle : Op.bytesLess (S (k - 1)).toList (S k).toList = true := by have := HO.out (k - 1) (by omega); rwa [Nat.sub_add_cancel (by omega)] at this
        go_wp2_with fail
        refine (hc _ hlt hbw).mono ?_
        rintro e w7 ⟨v, rfl, hv, hb7⟩
        obtain ⟨w8, hrun, hf8, hb8, hs8⟩ := Hup wr w7 k v Hf.out hb7 hsz hlt hv
        have hb7s := hb7.size
        clear c0 c1 c2 c3 c4 c5 c6 d0 d1 d2 d3 d4 d5 Hf c7 hw1 hw2 hw3 hw4 hle
        go_wp2_with (at_mapUpdate; refine wpList_mapUpdate_at rfl 74 _ _ _ rfl _ _ _ rfl rfl rfl hrun ?_)
        have hrel : ∃ k' : Nat, k' ≤ n ∧ Value.int .i64 ((k : Int) + 1) = .int .i64 k' ∧ Below (w.heap.size + 1) (boxV w ⟨k1, f1, t1, la, ln, lc, ka, n, kc, va, n, vc⟩) w8 ∧ w.heap.size + 1 < w8.heap.size ∧ MFilled w8 (w.heap.size + 1) k' ks vs :=
          ⟨k + 1, by omega, by go_num, (hbx.trans (hb7.mono (by omega))).trans hb8, by omega, hf8⟩
        go_roundw
        case rel => first | exact hrel | ((repeat apply Exists.intro); exact ⟨hrel, by first | rfl | (rw [ha, hab]; try rfl) | (rw [hab]; try rfl) | (rw [ha]; try rfl)⟩)
        case measure => simp [intOf]; omega
    · go_wp2_with fail
      obtain rfl : k = n := by omega
      exact hfin.out _ hfil hsz hbw
end Go.Proofs.YtaockngppbeanaaGreatDoor
