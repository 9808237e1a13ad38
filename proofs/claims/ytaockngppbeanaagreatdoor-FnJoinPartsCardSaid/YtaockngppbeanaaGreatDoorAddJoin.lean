/- gojq.add over funcJoin's iterator: the texts, one behind the other. Condition: each text has 2000 bytes at most, and there are 800 at most. -/
import Derived.Test.YtaockngppbeanaaGreatDoorJoinIter
import Derived.Test.YtaockngppbeanaaGreatDoorWriteStr
import Derived.Test.YtaockngppbeanaaGreatDoorToList
namespace Go.Proofs.YtaockngppbeanaaGreatDoor
open Go.RowKit Go.Shelf
attribute [local go_sem] Oper.semAt_some

theorem join_stops (n : Nat) (hn : 1 ≤ n) (Bs Bx n₀ b off len cap : Nat) (sep : T2) (ss : Nat → T2) (hlen : len ≤ 800) (hb : b < n₀) (hbx : Bx < n₀) (w : World) (hbs : Bs < w.heap.size) (hn0 : n₀ ≤ w.heap.size)
    (hBs : w.cell? ⟨Bs, 0, none⟩ = some (.slice (some ⟨b, off, none⟩) len cap)) (hBx : w.cell? ⟨Bx, 0, none⟩ = some (tv sep)) (hc : ∀ j, j < len → w.cell? ⟨b, off + j, none⟩ = some (tv (ss j))) :
    SeqStopsK Fence.wide n Tryz.prog 106 #[.pointer (some ⟨Bs, 0, none⟩), .pointer (some ⟨Bx, 0, none⟩)] (fun x : T2 => #[tv x]) (Below n₀) (fun xs => xs = js sep ss len) (fun _ => True) (2 * len) w :=
  fun l J Jx W hW _ _ hY h0 =>
    joinIter_in Fence.wide n trivial rfl hn l Bs Bx n₀ b off len cap sep ss hlen hb hbx J Jx hY W ((hW.cell (p := ⟨Bs, 0, none⟩) hbs).trans hBs) ((hW.cell (p := ⟨Bx, 0, none⟩) (by show Bx < _; omega)).trans hBx)
      (fun j hj => (hW.cell (p := ⟨b, off + j, none⟩) (by show b < _; omega)).trans (hc j hj)) h0

/-- What no builder's is, and no cells, stays. -/
theorem keepsOthers_of {W W' : World} {b : Nat} {c : Array Value} {t : TypeId} {fz : Nat × Nat} (h : Lib.OthersKept 5 (some b) W W') (hb : W.heap[b]? = some (.cells c t fz)) (hs : W.heap.size ≤ W'.heap.size) : KeepsOthers W W' :=
  ⟨hs, fun k o hk ho => h k o hk (fun e => by
    cases e
    rw [hk] at hb; cases hb; cases ho) (fun c' fz' e => by subst e; cases ho)⟩

/-- All the bytes of some texts. -/
def cat (l : List T2) : List UInt8 := l.flatMap fun x => x.1.data.toList
theorem cat_snoc (l : List T2) (x : T2) : cat (l ++ [x]) = cat l ++ x.1.data.toList := by simp [cat]
theorem cat_len (l : List T2) : (cat l).length ≤ 2000 * l.length := by
  induction l with
  | nil => simp [cat]
  | cons x r ih =>
    have e : cat (x :: r) = x.1.data.toList ++ cat r := by simp [cat]
    have h2 : x.1.data.toList.length ≤ 2000 := x.2
    rw [e, List.length_append, List.length_cons]
    omega
theorem cat_cells (l : List T2) (x : T2) : Lib.byteCells (cat l) ++ Lib.strCells x.1 = Lib.byteCells (cat (l ++ [x])) := by
  rw [cat_snoc]; simp [Lib.byteCells, Lib.strCells]

theorem builder_keep {A C : World} {B b : Nat} {bs : List Value} (keep : ∀ (k : Nat) (c : Array Value) (t : TypeId) (fz : Nat × Nat), B ≤ k → A.heap[k]? = some (.cells c t fz) → C.heap[k]? = some (.cells c t fz)) (h : Lib.IsBuilderF 152 5 B b bs A) : Lib.IsBuilderF 152 5 B b bs C := by
  have one : ∀ p, Lib.BuilderAtF 152 5 B b p bs A → Lib.BuilderAtF 152 5 B b p bs C := by
    rintro p ⟨hB, v, hb, ⟨h1, h2⟩, hne⟩
    refine ⟨hB, v, keep _ _ _ _ hB hb, ⟨h1, ?_⟩, hne⟩
    rcases h2 with h2 | ⟨g, cap, cur, fz, e1, e2, e3, e4, e5, e6, e7, e8⟩
    · exact Or.inl h2
    · exact Or.inr ⟨g, cap, cur, fz, e1, e2, keep _ _ _ _ e2 e3, e4, e5, e6, e7, e8⟩
  exact h.imp (one _) (one _)

/-- What stands between two rounds. -/
def AddI (w : World) (pre : List T2) (W : World) : Prop :=
  (pre.length ≤ 1600 ∧ ((pre = [] ∧ W.heap[w.heap.size + 1]? = some (.cells #[.nilIface] 20)) ∨
    ∃ bd, W.heap[w.heap.size + 1]? = some (.cells #[.iface 150 (.pointer (some ⟨bd, 0, none⟩))] 20) ∧ Lib.IsBuilderF 152 5 (w.heap.size + 2) bd (Lib.byteCells (cat pre)) W) ∧
   W.heap[w.heap.size]? = some (.cells #[.nilIface] 20)) ∧ Below w.heap.size w W

theorem addI_own (w : World) (B : Nat) (hB : w.heap.size ≤ B) : OwnFrom B (AddI w) := by
  rintro pre A C row ⟨⟨hp, h1, h2⟩, hb⟩ hg hr
  have keep : ∀ (k : Nat) (c : Array Value) (t : TypeId) (fz : Nat × Nat), A.heap[k]? = some (.cells c t fz) → C.heap[k]? = some (.cells c t fz) := fun k c t fz h =>
    (grownBy_keeps_cells hg (fun r e => (hr r e).2) h rfl).trans h
  refine ⟨⟨hp, ?_, keep _ _ _ _ h2⟩, hb.grown hg (Nat.le_trans (Nat.le_refl _) hb.size) (fun k e => Nat.le_trans hB (hr k e).1)⟩
  rcases h1 with ⟨h0, h1⟩ | ⟨bd, h1, hbd⟩
  · exact Or.inl ⟨h0, keep _ _ _ _ h1⟩
  · exact Or.inr ⟨bd, keep _ _ _ _ h1, builder_keep (fun k c t fz _ h => keep k c t fz h) hbd⟩

/-- What add answers. -/
def RAdd (w : World) (l : List T2) (e : Ending) (w' : World) : Prop := e = .returned (.iface 9 (.string ⟨(cat l).toArray⟩)) ∧ Below w.heap.size w w'

set_option maxRecDepth 100000 in
set_option maxHeartbeats 4000000 in
theorem add_join (Bs Bx b off len cap : Nat) (sep : T2) (ss : Nat → T2) (hlen : len ≤ 800) (hpos : 0 < len) (w : World) (hb : b < w.heap.size) (hbx : Bx < w.heap.size) (hbs : Bs < w.heap.size)
    (hBs : w.cell? ⟨Bs, 0, none⟩ = some (.slice (some ⟨b, off, none⟩) len cap)) (hBx : w.cell? ⟨Bx, 0, none⟩ = some (tv sep)) (hc : ∀ j, j < len → w.cell? ⟨b, off + j, none⟩ = some (tv (ss j))) :
    Calls Tryz.prog 105 #[.func (.func 106) #[] #[.pointer (some ⟨Bs, 0, none⟩), .pointer (some ⟨Bx, 0, none⟩)]] w (RAdd w (js sep ss len)) := by
  refine (callsIn_wide (n := 5)).1 ?_
  obtain ⟨w2, hw2⟩ : ∃ v, v = (w.alloc (.cells #[.nilIface] 20)).alloc (.cells #[.nilIface] 20) := ⟨_, rfl⟩
  have hB0 : Below w.heap.size w w2 := by rw [hw2]; exact ((Below.refl _ w).alloc (Nat.le_refl _) _).alloc (by simp) _
  have hz : w2.heap.size = w.heap.size + 2 := by rw [hw2]; simp
  have hst := join_stops 4 (by omega) Bs Bx w.heap.size b off len cap sep ss hlen hb hbx w2 (by omega) (by omega) ((hB0.cell (p := ⟨Bs, 0, none⟩) hbs).trans hBs) ((hB0.cell (p := ⟨Bx, 0, none⟩) hbx).trans hBx) (fun j hj => (hB0.cell (p := ⟨b, off + j, none⟩) hb).trans (hc j hj))
  refine callsIn_of_wp_marks Tryz.func105 rfl trivial ?_ rfl
  simp only [Tryz.ntmps105, List.size_toArray, List.length_cons, List.length_nil, Nat.reduceAdd, Nat.reduceSub, Array.replicate_succ, Array.replicate_zero, List.push_toArray, List.append_toArray, List.nil_append, List.cons_append]
  gi_wp2
  rw [hw2] at hst hB0 hz
  refine wpIn_rangeFunc_ownF rfl (by omega) (gf := 106) (lb := #[.pointer (some ⟨Bs, 0, none⟩), .pointer (some ⟨Bx, 0, none⟩)]) rfl trivial (enters_of Tryz.func106 (by kernel_rfl) rfl)
    hst belowK_t (belowK_b (by simp; omega)) (Below.refl _ _) (fun _ => rfl)
    (AddI w) (fun _ _ _ => False) (addI_own w _ (by simp; omega)) (fun _ _ _ _ _ hs _ _ => hs) ?h0 ?frame1 ?assign ?body ?done ?stop
  case stop =>
    rintro D c pre W _ _ h _
    exact h.elim
  case assign =>
    intro l x W K hK
    gi_wp2
    exact hK
  case h0 =>
    refine ⟨⟨Nat.zero_le _, Or.inl ⟨rfl, ?_⟩, ?_⟩, hB0⟩
    · have := World.alloc_heap_new (w.alloc (.cells #[.nilIface] 20)) (.cells #[.nilIface] 20)
      simpa using this
    · exact (Below.heap_alloc _ _ _ (by simp)).trans (World.alloc_heap_new w _)
  case body =>
    rintro l pre x W ⟨⟨hp, hv, hr⟩, hB⟩ hlt
    have hsW : w.heap.size + 1 < W.heap.size := by
      rcases hv with ⟨_, h⟩ | ⟨_, h, _⟩
      · exact (Array.getElem?_eq_some_iff.1 h).1
      · exact (Array.getElem?_eq_some_iff.1 h).1
    rcases hv with ⟨rfl, hv⟩ | ⟨bd, hv, hbd⟩
    · have c0 := (cell_of_block hv 0).1
      have f0 := (cell_of_block hv 0).2
      simp only [List.getElem?_toArray, List.getElem?_cons_zero] at c0
      have HV := Lib.hid hv
      have HR := Lib.hid hr
      clear hv hr
      have hnb : Lib.IsBuilderF 152 5 (w.heap.size + 2) W.heap.size [] (W.alloc (.cells #[.pointer none, .slice none 0 0] 152)) :=
        Lib.IsBuilderF.of (Or.inl ⟨by omega, .slice none 0 0, World.alloc_heap_new W _, World.ownsRow_nil _ _ _ _, by simp [Value.ownBlock]⟩)
      gi_wp2_with fail
      refine ⟨trivial, ?_⟩
      refine (CallsIn.inRound l (callsIn_wide.2 (Tryz.Builder_WriteString_k (w.heap.size + 2) W.heap.size [] x.1 _ hnb (by have := x.2; simp; omega) (by simp; omega)))).mono ?_
      rintro e W1 ⟨rfl, hA, hb1, hk1⟩
      have hWx : ∀ (k : Nat) (o : Obj), W.heap[k]? = some o → (W.alloc (.cells #[.pointer none, .slice none 0 0] 152)).heap[k]? = some o := fun k o h => (Below.heap_alloc _ _ _ (Array.getElem?_eq_some_iff.1 h).1).trans h
      have hv1 := hk1 _ _ (hWx _ _ HV.out) (by simp; omega) (by simp)
      have hr1 := hk1 _ _ (hWx _ _ HR.out) (by simp; omega) (by simp)
      have hKO : KeepsOthers W W1 := (KeepsOthers.alloc W _).trans (keepsOthers_of hk1 (World.alloc_heap_new W _) hb1.size)
      have c1 := (cell_of_block hv1 0).1
      have f1 := (cell_of_block hv1 0).2
      simp only [List.getElem?_toArray, List.getElem?_cons_zero] at c1
      have hbW : Below w.heap.size W W1 := ((Below.refl _ W).alloc (by omega) _).trans (hb1.mono (by omega))
      have Hv1 := Lib.hid hv1
      have Hr1 := Lib.hid hr1
      have HA := Lib.hid hA
      have HB := Lib.hid (And.intro hKO hbW)
      clear hb1 hk1 hWx hv1 hr1 hA hKO hbW hnb c0 f0
      gi_wp2_with fail
      have hne : w.heap.size + 1 ≠ w.heap.size := by omega
      have hbs := HB.out.2.setCell (p := ⟨w.heap.size + 1, 0, none⟩) (by show w.heap.size ≤ w.heap.size + 1; omega) (.iface 150 (.pointer (some ⟨W.heap.size, 0, none⟩)))
      refine ⟨HB.out.1.trans (KeepsOthers.setCell _ _ _), hbs, ⟨⟨by simp, Or.inr ⟨W.heap.size, (block_set Hv1.out).trans (by simp), ?_⟩, (Below.heap_setCell _ _ _ _ hne.symm).trans Hr1.out⟩, hB.trans hbs⟩⟩
      have hcat : Lib.byteCells (cat ([] ++ [x])) = [] ++ Lib.strCells x.1 := by rw [← cat_cells]; rfl
      rw [hcat]
      exact builder_keep (fun k c t fz hk h => (Below.heap_setCell _ _ _ _ (by show k ≠ w.heap.size + 1; omega)).trans h) (Or.inr HA.out)
    · have c0 := (cell_of_block hv 0).1
      have f0 := (cell_of_block hv 0).2
      simp only [List.getElem?_toArray, List.getElem?_cons_zero] at c0
      have HV := Lib.hid hv
      have HR := Lib.hid hr
      have HBD := Lib.hid hbd
      clear hv hr hbd
      gi_wp2_with fail
      have hcl := cat_len pre
      refine ⟨trivial, ?_⟩
      refine (CallsIn.inRound l (callsIn_wide.2 (Tryz.Builder_WriteString_k (w.heap.size + 2) bd _ x.1 _ HBD.out (by have := x.2; rw [Lib.byteCells_length]; omega) (by omega)))).mono ?_
      rintro e W1 ⟨rfl, hA, hb1, hk1⟩
      obtain ⟨p, hbB, v, hbk⟩ : ∃ p, w.heap.size + 2 ≤ bd ∧ ∃ v, W.heap[bd]? = some (.cells #[p, v] 152 (0, 0)) := by
        rcases HBD.out with ⟨hB, v, h, _⟩ | ⟨hB, v, h, _⟩
        · exact ⟨_, hB, v, h⟩
        · exact ⟨_, hB, v, h⟩
      have hv1 := hk1 _ _ HV.out (by simp; omega) (by simp)
      have hr1 := hk1 _ _ HR.out (by simp; omega) (by simp)
      have hKO : KeepsOthers W W1 := keepsOthers_of hk1 hbk hb1.size
      have hbW : Below w.heap.size W W1 := hb1.mono (by omega)
      have Hv1 := Lib.hid hv1
      have Hr1 := Lib.hid hr1
      have HA := Lib.hid hA
      have HB := Lib.hid (And.intro hKO hbW)
      clear hb1 hk1 hv1 hr1 hA hKO hbW c0 f0 hbk
      gi_wp2_with fail
      refine ⟨HB.out.1, HB.out.2, ⟨⟨by simp; omega, Or.inr ⟨bd, Hv1.out, ?_⟩, Hr1.out⟩, hB.trans HB.out.2⟩⟩
      rw [← cat_cells]
      exact Or.inr HA.out
  case done =>
    rintro D ys W hD rfl ⟨⟨hp, hv, hr⟩, hB⟩ hK
    rcases hv with ⟨he, _⟩ | ⟨bd, hv, hbd⟩
    · have := js_length sep ss len
      rw [he] at this
      simp at this
      omega
    have hsW : w.heap.size + 1 < W.heap.size := (Array.getElem?_eq_some_iff.1 hv).1
    have hD2 : w.heap.size + 2 ≤ D := by simpa using hD
    have c0 := (cell_of_block hv 0).1
    have f0 := (cell_of_block hv 0).2
    simp only [List.getElem?_toArray, List.getElem?_cons_zero] at c0
    have HV := Lib.hid hv
    have HR := Lib.hid hr
    have HBD := Lib.hid hbd
    have HK := Lib.hid hK
    have HB0 := Lib.hid hB
    obtain ⟨l0, hl0⟩ : ∃ l, l = js sep ss len := ⟨_, rfl⟩
    rw [← hl0] at HBD ⊢
    have HL := Lib.hid hl0
    clear hv hr hbd hK hB hst hl0
    gi_wp2_with fail
    refine ⟨trivial, ?_⟩
    refine (callsIn_wide.2 (Tryz.Builder_String_k (w.heap.size + 2) bd (cat l0) _ HBD.out (by omega))).mono ?_
    rintro e W1 ⟨rfl, hA, hb1, hk1⟩
    obtain ⟨p, hbB, v, hbk⟩ : ∃ p, w.heap.size + 2 ≤ bd ∧ ∃ v, W.heap[bd]? = some (.cells #[p, v] 152 (0, 0)) := by
      rcases HBD.out with ⟨hB, v, h, _⟩ | ⟨hB, v, h, _⟩
      · exact ⟨_, hB, v, h⟩
      · exact ⟨_, hB, v, h⟩
    have hv1 := hk1 _ _ HV.out (by simp; omega) (by simp)
    have hr1 := hk1 _ _ HR.out (by simp; omega) (by simp)
    have hKO : KeepsOthers W W1 := keepsOthers_of hk1 hbk hb1.size
    have hK1 := hKO.same D _ HK.out rfl
    have hbW : Below w.heap.size w W1 := HB0.out.trans (hb1.mono (by omega))
    have c1 := (cell_of_block hv1 0).1
    have f1 := (cell_of_block hv1 0).2
    have c2 := (cell_of_block hr1 0).1
    have f2 := (cell_of_block hr1 0).2
    simp only [List.getElem?_toArray, List.getElem?_cons_zero] at c1 c2
    have Hv1 := Lib.hid hv1
    have Hr1 := Lib.hid hr1
    have HB := Lib.hid (And.intro hK1 hbW)
    clear hb1 hk1 hv1 hr1 hA hKO hbW c0 f0 hbk hK1
    gi_wp2_with fail
    have hne : w.heap.size ≠ w.heap.size + 1 := by omega
    obtain ⟨V, hV⟩ : ∃ V, V = Value.iface 9 (Value.string ⟨(cat l0).toArray⟩) := ⟨_, rfl⟩
    rw [← hV]
    have hK2 := ((KeepsOthers.setCell W1 ⟨w.heap.size + 1, 0, none⟩ V).trans (KeepsOthers.setCell _ ⟨w.heap.size, 0, none⟩ V)).same D _ HB.out.1 rfl
    have hr2 : (W1.setCell ⟨w.heap.size + 1, 0, none⟩ V).heap[w.heap.size]? = some (.cells #[.nilIface] 20) := (Below.heap_setCell _ _ _ _ hne).trans Hr1.out
    have hc4 := (cell_of_block (block_set (k := 0) (v := V) hr2) 0).1
    simp only [List.setIfInBounds_toArray, List.set_cons_zero, List.getElem?_toArray, List.getElem?_cons_zero] at hc4
    have hc5 := cell_kept hc4 (grownBy_putObj' _ D (.deferred none)) (fun r e => by cases e; exact ⟨_, hK2, rfl⟩)
    have hb2 : Below w.heap.size w ((W1.setCell ⟨w.heap.size + 1, 0, none⟩ V).setCell ⟨w.heap.size, 0, none⟩ V) := (HB.out.2.setCell (p := ⟨w.heap.size + 1, 0, none⟩) (by show w.heap.size ≤ w.heap.size + 1; omega) V).setCell (p := ⟨w.heap.size, 0, none⟩) (Nat.le_refl _) V
    have hb3 := hb2.trans (belowK_b (w := w) (Nat.le_refl _) _ D _ (.deferred none) (by omega) hK2 rfl rfl)
    refine ⟨by simp, .inl ⟨_, _, rfl, run_takeDeferred hK2, ?_⟩⟩
    refine ⟨V, ?_, by rw [hV, HL.out], hb3⟩
    simp [results, Tryz.f105, go_sem, hc5]
end Go.Proofs.YtaockngppbeanaaGreatDoor
