/- gojq.Compare: 0 where two values are the same. -/
import Derived.Test.YtaockngppbeanaaGreatDoorDisp
import Derived.Test.YtaockngppbeanaaGreatDoorGMaps
namespace Go.Proofs.YtaockngppbeanaaGreatDoor
open Go.RowKit

set_option maxRecDepth 100000 in
set_option maxHeartbeats 1000000 in
theorem wrap126 (l r : Value) (w : World) (p : Int → Prop) (h : Calls Tryz.prog 142 #[l, r, fv 143, fv 144, fv 146, fv 147, fv 148, fv 149, fv 151] w (RI w p)) : Calls Tryz.prog 126 #[l, r] w (RI w p) := by
  go_enter Tryz.func126, Tryz.ntmps126
  go_wp2_with (go_at_call 142; refine h.mono ?_; rintro e w' ⟨c, rfl, hc, hb⟩)
  go_ret
  exact ⟨_, rfl, hc, hb⟩

def txt (s : ByteArray) : JV := JV.mk 4 0 s [] [] []
theorem txt_inj {a b : ByteArray} : txt a = txt b ↔ a = b := by simp [txt]
theorem map_txt_inj {a b : List ByteArray} : a.map txt = b.map txt ↔ a = b := by
  constructor
  · intro h
    exact List.map_inj_right (fun x y h => txt_inj.1 h) |>.1 h
  · rintro rfl; rfl

theorem RI.iff {w : World} {p q : Prop} (h : p ↔ q) : RI w (fun c => c = 0 ↔ p) = RI w (fun c => c = 0 ↔ q) := by
  rw [propext h]

theorem RI.to {w : World} {p q : Prop} (h : p ↔ q) {f : Nat} {xs : Array Value} {w0 : World} (hw : Calls Tryz.prog f xs w0 (RI w fun c => c = 0 ↔ p)) : Calls Tryz.prog f xs w0 (RI w fun c => c = 0 ↔ q) := by
  rw [← RI.iff h]; exact hw

/-- Two texts. -/
theorem compare_text (s t : ByteArray) (ht : t.size ≤ 2000) (hs : s.size ≤ 2000) (w : World) : Calls Tryz.prog 126 #[.iface 9 (.string s), .iface 9 (.string t)] w (RI w fun c => c = 0 ↔ s = t) := by
  have h := disp_text s (.iface 9 (.string t)) (txt t) w 0 0 (.text t ht) w (typeIndex_any _ _ w 0 0 (.text s hs))
  have e : (JV.mk 4 0 s [] [] [] = txt t) ↔ s = t := txt_inj
  rw [RI.iff e] at h
  exact wrap126 _ _ _ _ h

/-- Two rows of texts. -/
theorem compare_texts (ks1 ks2 : List ByteArray) (hk1 : ∀ s ∈ ks1, s.size ≤ 2000) (hk2 : ∀ s ∈ ks2, s.size ≤ 2000) (hl1 : ks1.length ≤ 400) (hl2 : ks2.length ≤ 400) (a1 a2 : Option Addr) (n1 n2 : Nat) (w : World) (lo hi lo' hi' : Nat) (hn1 : n1 = ks1.length) (hn2 : n2 = ks2.length)
    (hB1 : hi ≤ w.heap.size) (hB2 : hi' ≤ w.heap.size) (r1 : Row w lo hi a1 n1 (fun i => .iface 9 (.string (ks1.getD i ByteArray.empty)))) (r2 : Row w lo' hi' a2 n2 (fun i => .iface 9 (.string (ks2.getD i ByteArray.empty)))) :
    Calls Tryz.prog 126 #[.iface 71 (.slice a1 n1 n1), .iface 71 (.slice a2 n2 n2)] w (RI w fun c => c = 0 ↔ ks1 = ks2) := by
  have sz : ∀ (ks : List ByteArray), (∀ s ∈ ks, s.size ≤ 2000) → ∀ i, i < ks.length → (ks.getD i ByteArray.empty).size ≤ 2000 := fun ks h i hi => by
    rw [List.getD_eq_getElem?_getD, List.getElem?_eq_getElem hi]; exact h _ (List.getElem_mem _)
  have rep : ∀ (ks : List ByteArray) (a : Option Addr) (n lo hi : Nat), (∀ s ∈ ks, s.size ≤ 2000) → ks.length ≤ 400 → n = ks.length → Row w lo hi a n (fun i => .iface 9 (.string (ks.getD i ByteArray.empty))) → GRep w lo hi (.iface 71 (.slice a n n)) (JV.mk 5 0 ByteArray.empty (ks.map txt) [] []) := fun ks a n lo hi h hl hn hr => by
    have e : n = (ks.map txt).length := by simp [hn]
    rw [e] at hr ⊢
    refine .list a _ _ (ks.map txt) (Nat.le_refl _) (by simp; omega) hr (fun i hi => ?_)
    have hi' : i < ks.length := by simpa using hi
    have e2 : (ks.map txt)[i] = txt (ks.getD i ByteArray.empty) := by simp [List.getElem?_eq_getElem hi']
    rw [e2]
    exact .text _ (sz ks h i hi')
  have g1 := rep ks1 a1 n1 lo hi hk1 hl1 hn1 r1
  have g2 := rep ks2 a2 n2 lo' hi' hk2 hl2 hn2 r2
  have h := disp_list a1 n1 n1 (ks1.map txt) (.iface 71 (.slice a2 n2 n2)) _ w lo' hi' g2 w (typeIndex_any _ _ w lo hi g1) (fun a3 n3 c3 e3 => by
    have e4 : Value.slice a2 n2 n2 = .slice a3 n3 c3 := by injection e3
    injection e4 with x1 x2 x3
    subst x1 x2 x3
    have hw := glists_walk (fun k => ks1.getD k ByteArray.empty = ks2.getD k ByteArray.empty) a1 a2 n1 n1 n2 n2 _ _ w (by omega) (by omega) lo hi lo' hi' hB1 hB2 r1 r2 (fun k wr hk hk2' _ => compare_text _ _ (sz ks2 hk2 k (by omega)) (sz ks1 hk1 k (by omega)) wr)
    refine RI.to ?_ hw
    subst hn1 hn2
    constructor
    · rintro ⟨e1, e2⟩
      have e5 : ks1 = ks2 := by
        refine List.ext_getElem e1 (fun k h1 h2 => ?_)
        have := e2 k h1
        simpa [List.getElem?_eq_getElem h1, List.getElem?_eq_getElem h2] using this
      rw [e5]
    · intro e5
      have e6 : ks1 = ks2 := map_txt_inj.1 (by simpa using e5)
      subst e6
      exact ⟨rfl, fun k _ => rfl⟩)
  have e7 : (JV.mk 5 0 ByteArray.empty (ks1.map txt) [] [] = JV.mk 5 0 ByteArray.empty (ks2.map txt) [] []) ↔ ks1 = ks2 := by
    simp [map_txt_inj]
  rw [RI.iff e7] at h
  exact wrap126 _ _ _ _ h

theorem GRep.sizeList {ls : List JV} {i : Nat} (h : i < ls.length) : SizeOf.sizeOf ls[i] < SizeOf.sizeOf (JV.mk 5 0 ByteArray.empty ls [] []) := by
  have := List.sizeOf_lt_of_mem (List.getElem_mem h)
  simp only [JV.mk.sizeOf_spec]
  omega
theorem GRep.sizeMap {ks : List ByteArray} {vs : List JV} {i : Nat} (h : i < vs.length) : SizeOf.sizeOf vs[i] < SizeOf.sizeOf (JV.mk 6 0 ByteArray.empty [] ks vs) := by
  have := List.sizeOf_lt_of_mem (List.getElem_mem h)
  simp only [JV.mk.sizeOf_spec]
  omega

theorem at_len {α : Type} {l r : List α} (h : l.length = r.length) : (∀ k, k < l.length → l[k]? = r[k]?) ↔ l = r := by
  rw [← ext_of (l := l) (r := r) (m := l.length) (n := r.length) rfl rfl]
  exact ⟨fun a => ⟨h, a⟩, fun a => a.2⟩

set_option maxHeartbeats 4000000 in
/-- gojq.Compare: 0 where the two values are the same. -/
theorem compare_any (n : Nat) : ∀ (a b : JV) (l r : Value) (lo hi lo' hi' : Nat) (w : World), SizeOf.sizeOf a < n → GRep w lo hi l a → GRep w lo' hi' r b → hi ≤ w.heap.size → hi' ≤ w.heap.size →
    Calls Tryz.prog 126 #[l, r] w (RI w fun c => c = 0 ↔ a = b) := by
  induction n with
  | zero => intro a b l r lo hi lo' hi' w hn; omega
  | succ n ih =>
    intro a b l r lo hi lo' hi' w hn g1 g2 hB1 hB2
    refine wrap126 _ _ _ _ ?_
    have c1 := typeIndex_any l a w lo hi g1
    cases g1 with
    | null => exact disp_null _ _ _ _ _ g2 _
    | fls => exact disp_fls _ _ _ _ _ g2 _
    | tru => exact disp_tru _ _ _ _ _ g2 _
    | int k h1 h2 => exact disp_int _ h1 h2 _ _ _ _ _ g2 _
    | flt h bb hb ho => exact disp_flt _ _ hb ho _ _ _ _ _ g2 _
    | text s hs => exact disp_text _ _ _ _ _ _ g2 _ c1
    | list a1 cc C ls hl hc hr h1 =>
      refine disp_list _ _ _ _ _ _ _ _ _ g2 _ c1 (fun a2 n2 c2 e => ?_)
      subst e
      cases g2 with
      | list _ _ C2 ls2 hl2 hc2 hr2 h12 =>
        have hw := glists_walk (fun k => ls[k]? = ls2[k]?) a1 a2 ls.length cc ls2.length c2 C C2 w (by omega) (by omega) lo hi lo' hi' hB1 hB2 hr hr2 (fun k wr hk hk2 hb => by
          have hx := ih ls[k] ls2[k] (C k) (C2 k) lo hi lo' hi' wr (by have := GRep.sizeList (ls := ls) hk; omega) ((h1 k hk).keep (.of_below hb hB1) (Nat.le_refl _) (Nat.le_refl _)) ((h12 k hk2).keep (.of_below hb hB2) (Nat.le_refl _) (Nat.le_refl _)) (by have := hb.size; omega) (by have := hb.size; omega)
          refine RI.to ?_ hx
          rw [List.getElem?_eq_getElem hk, List.getElem?_eq_getElem hk2, Option.some.injEq])
        refine RI.to ?_ hw
        rw [ext_of rfl rfl]
        simp
    | map r1 ks vs V hlo hhi hm hll h4 ord sk h1 =>
      refine disp_map _ _ _ _ _ _ _ _ g2 _ c1 (fun r2 e => ?_)
      subst e
      cases g2 with
      | map _ ks2 vs2 V2 hlo2 hhi2 hm2 hll2 h42 ord2 sk2 h12 =>
        have hw := gmaps_walk (fun k => vs[k]? = vs2[k]?) ks ks2 V V2 r1 r2 w hm hm2 h4 h42 ord ord2
          (fun a1 a2 n1 n2 wr lo hi lo' hi' e1 e2 b1 b2 q1 q2 => compare_texts ks ks2 sk sk2 h4 h42 a1 a2 n1 n2 wr lo hi lo' hi' e1 e2 b1 b2 q1 q2)
          (fun k wr hk hks hb => by
            have hk1 : k < vs.length := by omega
            have hk2 : k < vs2.length := by rw [← hll2, ← hks]; omega
            have hx := ih vs[k] vs2[k] (V k) (V2 k) lo hi lo' hi' wr (by have := GRep.sizeMap (ks := ks) (vs := vs) hk1; omega) ((h1 k hk1).keep (.of_below hb hB1) (Nat.le_refl _) (Nat.le_refl _)) ((h12 k hk2).keep (.of_below hb hB2) (Nat.le_refl _) (Nat.le_refl _)) (by have := hb.size; omega) (by have := hb.size; omega)
            refine RI.to ?_ hx
            rw [List.getElem?_eq_getElem hk1, List.getElem?_eq_getElem hk2, Option.some.injEq])
        refine RI.to ?_ hw
        constructor
        · rintro ⟨e1, e2⟩
          have e3 : vs = vs2 := (at_len (by rw [← hll, ← hll2, e1])).1 (fun k hk => e2 k (by omega))
          rw [e1, e3]
        · intro e
          injection e with _ _ _ _ e1 e2
          subst e1 e2
          exact ⟨rfl, fun k _ => rfl⟩
end Go.Proofs.YtaockngppbeanaaGreatDoor
