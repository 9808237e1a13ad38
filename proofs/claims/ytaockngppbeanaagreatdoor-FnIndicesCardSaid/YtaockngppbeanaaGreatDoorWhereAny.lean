/- spec.where at indices: what it answers is what the two values' places are. Condition: two right values. -/
import Derived.Test.YtaockngppbeanaaGreatDoorWhereList
namespace Go.Proofs.YtaockngppbeanaaGreatDoor
open Go.RowKit

/-- Where the reference speaks. -/
def OkJ (j1 j2 : JV) : Prop := j1.kind ≠ 0 ∧ j2.kind ≠ 0 ∧ (j1.kind = 5 → j2.kind = 5 → 1 ≤ j2.list.length) ∧ (j1.kind = 4 → j2.kind = 4 → 1 ≤ (runesOf j2.text).length)

theorem runes_pos (t : ByteArray) (h : 0 < t.size) : 1 ≤ (runesOf t).length := by
  unfold runesOf
  obtain ⟨n, hn⟩ : ∃ n, t.size = n + 1 := ⟨t.size - 1, by omega⟩
  rw [hn, runes, if_pos h]
  simp

theorem part5 {j : JV} (h : j.kind = 5) : part j = j.list := if_pos h
theorem part_ne {j : JV} (h : j.kind ≠ 5) : part j = [j] := if_neg h
theorem spots5 {j1 j2 : JV} (h : j1.kind = 5) : spots j1 j2 = some (pick (fun k => (j1.list.drop k).take (part j2).length = part j2) (j1.list.length + 1 - (part j2).length)) := if_pos h
theorem spots44 {j1 j2 : JV} (h : j1.kind = 4 ∧ j2.kind = 4) : spots j1 j2 = some (pick (fun k => ((runesJ j1.text).drop k).take (runesJ j2.text).length = runesJ j2.text) ((runesJ j1.text).length + 1 - (runesJ j2.text).length)) := by
  unfold spots
  rw [if_neg (by rw [h.1]; decide), if_pos h]
theorem spotsN {j1 j2 : JV} (h5 : j1.kind ≠ 5) (h : ¬ (j1.kind = 4 ∧ j2.kind = 4)) : spots j1 j2 = none := by
  unfold spots
  rw [if_neg h5, if_neg h]
theorem pick_eq_le {P Q : Nat → Prop} {a b : Nat} (hab : a ≤ b) (h : ∀ m, (m < a ∧ P m) ↔ (m < b ∧ Q m)) : pick P a = pick Q b := by
  have h1 : pick P a = pick Q a := pick_congr fun m hm => ⟨fun g => ((h m).1 ⟨hm, g⟩).2, fun g => ((h m).2 ⟨by omega, g⟩).2⟩
  have h2 := pick_none (P := Q) (k := a) (b - a) (fun q h1 h2 g => by
    have := ((h q).2 ⟨by omega, g⟩).1
    omega)
  rw [Nat.add_sub_cancel' hab] at h2
  rw [h1, h2]
theorem pick_eq {P Q : Nat → Prop} {a b : Nat} (h : ∀ m, (m < a ∧ P m) ↔ (m < b ∧ Q m)) : pick P a = pick Q b := by
  rcases Nat.le_total a b with g | g
  · exact pick_eq_le g h
  · exact (pick_eq_le g fun m => (h m).symm).symm

theorem spots_bound {j1 j2 : JV} (r1 : Right j1) (hk : OkJ j1 j2) : ∀ L, spots j1 j2 = some L → (∀ k ∈ L, k ≤ 2000) ∧ L.length ≤ 2000 := by
  obtain ⟨k, h, t, ls, ks, vs, k0, k6, z1, z2, z3, z4, z5, b1, b2, b3, st, sl, sv, sk, ord, rr1, rr3⟩ := r1
  intro L hL
  unfold spots at hL
  split at hL
  · injection hL with hL
    subst hL
    have hl : (JV.mk k h t ls ks vs).list.length ≤ 400 := sl
    exact ⟨fun q hq => by have := (pick_mem.1 hq).1; omega, by have := pick_len (fun k_1 => List.take (part j2).length (List.drop k_1 (JV.mk k h t ls ks vs).list) = part j2) ((JV.mk k h t ls ks vs).list.length + 1 - (part j2).length); omega⟩
  · split at hL
    · rename_i hkk
      injection hL with hL
      subst hL
      have h1 : 1 ≤ (runesJ j2.text).length := by rw [runesJ, List.length_map]; exact hk.2.2.2 hkk.1 hkk.2
      have h2 : (runesJ (JV.mk k h t ls ks vs).text).length ≤ 2000 := by
        rw [runesJ, List.length_map]
        exact Nat.le_trans (runes_len _ _ _) st
      exact ⟨fun q hq => by have := (pick_mem.1 hq).1; omega, Nat.le_trans (pick_len _ _) (by omega)⟩
    · cases hL

theorem where_any (j1 j2 : JV) (x y : VC) (B : Nat) (w : World) (h1 : VRep w B x j1) (h2 : VRep w B y j2) (hB : B ≤ w.heap.size) (r1 : Right j1) (r2 : Right j2) :
    Calls Tryz.prog 45 #[.string nmI, x.val, y.val] w (RWh w (OkJ j1 j2 ∧ spots j1 j2 = none) (fun L => OkJ j1 j2 ∧ spots j1 j2 = some L)) := by
  have h1' := h1
  have h2' := h2
  obtain ⟨_, ls, ks, vs, L, V, hn1, hn2, hn3, hb1, hb2, hb3, hc1, hc2, hc3, hc4, hc5, hc6, ht, hk, hh, hs, w1, w2, w3, e1, e3⟩ := h1
  obtain ⟨_, ls', ks', vs', L', V', hn1', hn2', hn3', hb1', hb2', hb3', hc1', hc2', hc3', hc4', hc5', hc6', ht', hk', hh', hs', w1', w2', w3', e1', e3'⟩ := h2
  have q1 := r1
  have q2 := r2
  obtain ⟨_, _, _, _, _, _, k0, k6, z1, z2, z3, z4, z5, b1, b2, b3, st, sl, sv, sk, ord, rr1, rr3⟩ := r1
  obtain ⟨_, _, _, _, _, _, k0', k6', z1', z2', z3', z4', z5', b1', b2', b3', st', sl', sv', sk', ord', rr1', rr3'⟩ := r2
  by_cases hnull : y.kind = 0 ∨ x.kind = 0
  · exact where_null nmI x y _ _ hnull w
  have nx : x.kind ≠ 0 := fun h => hnull (Or.inr h)
  have ny : y.kind ≠ 0 := fun h => hnull (Or.inl h)
  by_cases hx5 : x.kind = 5
  · by_cases hy5 : y.kind = 5
    · refine where_list_walk (fun k => (ls.drop k).take y.ln = ls') x y w hx5 hy5 (by omega) (by omega) hc1 hc4 (w1.imp id (fun ⟨b, off, h, _⟩ => ⟨b, off, h⟩)) ?_ _ _ ?_
      · intro k wr hkn hb b off ha
        have hR : ((ls.drop k).take y.ln = ls') ↔ (y.ln = y.ln ∧ ∀ i, i < y.ln → ls[k + i]? = ls'[i]?) := by
          rw [← ext_of (m := y.ln) (n := y.ln) (by rw [List.length_take, List.length_drop]; omega) hn1']
          constructor
          · rintro ⟨h, g⟩
            exact ⟨h, fun i hi => by rw [← g i hi, List.getElem?_take_of_lt hi, List.getElem?_drop]⟩
          · rintro ⟨h, g⟩
            exact ⟨h, fun i hi => by rw [← g i hi, List.getElem?_take_of_lt hi, List.getElem?_drop]⟩
        have hl := lists_walk (fun i => ls[k + i]? = ls'[i]?) (some ⟨b, off + k * 6, none⟩) y.la y.ln (x.lc - k) y.ln y.lc (fun i => L (k + i)) L' B wr (Nat.le_trans hB hb.size) (by omega) (by omega) (by
          rcases w1 with w1 | ⟨b', off', ha', hlb, w1⟩
          · exact Or.inl (by omega)
          · rw [ha] at ha'
            injection ha' with ha'
            injection ha' with x1 x2
            subst x1 x2
            refine Or.inr ⟨b, off + k * 6, rfl, hlb, fun i hi => ?_⟩
            have := (w1 (k + i) (by omega)).keep (hb.mono hB) hlb
            rwa [Nat.add_mul, ← Nat.add_assoc] at this) (w1'.keep (hb.mono hB) (Nat.le_refl _)) (fun i wq hi hi2 hbq => by
          have e3 : ls[k + i]? = ls'[i]? ↔ ls[k + i]'(by omega) = ls'[i]'(by omega) := by rw [List.getElem?_eq_getElem (by omega), List.getElem?_eq_getElem (by omega)]; simp
          simp only [e3]
          have hbb := hb.trans (hbq.mono hb.size)
          exact cmp_any _ _ _ _ _ B wq (Nat.lt_succ_self _) ((e1 (k + i) (by omega)).keep (hbb.mono hB) (Nat.le_refl _)) ((e1' i (by omega)).keep (hbb.mono hB) (Nat.le_refl _)) (Nat.le_trans hB hbb.size) (rr1 _ (List.getElem_mem _)).tidy (rr1' _ (List.getElem_mem _)).tidy)
        exact hl.mono fun e w' ⟨c, he, hp, hb'⟩ => ⟨c, he, Lib.hid (hp.out.1.trans hR.symm), hb'⟩
      · intro hm1
        refine ⟨⟨nx, ny, fun _ _ => by show 1 ≤ ls'.length; omega, fun h => absurd (hx5.symm.trans h) (by decide)⟩, ?_⟩
        refine (spots5 (j1 := JV.mk x.kind x.half x.text ls ks vs) (j2 := JV.mk y.kind y.half y.text ls' ks' vs') hx5).trans ?_
        rw [part5 (j := JV.mk y.kind y.half y.text ls' ks' vs') hy5, hn1, hn1']
        rfl
    · refine where_one_walk (fun k => (ls.drop k).take 1 = [JV.mk y.kind y.half y.text ls' ks' vs']) x y B L w hx5 ny hy5 hB (by omega) w1 ?_ _ _ ?_
      · intro k wr hkn hb
        have hki : k < ls.length := by omega
        refine (same_any _ _ y (L k) B wr (h2'.keep (hb.mono hB) (Nat.le_refl _)) ((e1 k hki).keep (hb.mono hB) (Nat.le_refl _)) (Nat.le_trans hB hb.size) q2 (rr1 _ (List.getElem_mem _))).mono fun e w' h => h.to fun r hr => ?_
        rw [hr, List.drop_eq_getElem_cons hki]
        simp only [List.take_succ_cons, List.take_zero, List.cons.injEq, and_true]
        exact eq_comm
      · refine ⟨⟨nx, ny, fun _ h => absurd h hy5, fun h => absurd (hx5.symm.trans h) (by decide)⟩, ?_⟩
        refine (spots5 (j1 := JV.mk x.kind x.half x.text ls ks vs) (j2 := JV.mk y.kind y.half y.text ls' ks' vs') hx5).trans ?_
        rw [part_ne (j := JV.mk y.kind y.half y.text ls' ks' vs') hy5, hn1]
        rfl
  · by_cases h44 : x.kind = 4 ∧ y.kind = 4
    · refine where_text x y h44.1 h44.2 st st' w _ _ ?_
      intro ha hpos
      refine ⟨⟨nx, ny, fun h => absurd h hx5, fun _ _ => runes_pos _ hpos⟩, ?_⟩
      refine (spots44 (j1 := JV.mk x.kind x.half x.text ls ks vs) (j2 := JV.mk y.kind y.half y.text ls' ks' vs') h44).trans ?_
      congr 1
      exact pick_eq fun m => ⟨fun h => by
        have hst := (stands_iff x.text y.text ha m).1 h
        have := hst.1
        exact ⟨by omega, hst⟩, fun h => (stands_iff x.text y.text ha m).2 h.2⟩
    · have h4 : x.kind ≠ 4 ∨ y.kind ≠ 4 := by
        by_cases h4 : x.kind = 4
        · exact Or.inr fun h => h44 ⟨h4, h⟩
        · exact Or.inl h4
      exact where_raise nmI x y _ _ ⟨⟨nx, ny, fun h => absurd h hx5, fun h g => absurd ⟨h, g⟩ h44⟩, spotsN hx5 h44⟩ nx ny hx5 h4 w
end Go.Proofs.YtaockngppbeanaaGreatDoor
