/- laws.FnJoinParts answers true, whatever two lists of texts and text it is handed that can be read. Condition: utf8's two tables lie as the library's text lays them. -/
import Derived.Test.YtaockngppbeanaaGreatDoorJLaw
import Derived.SliceStrings
import Derived.ChangeMaps5
namespace Go.Proofs.YtaockngppbeanaaGreatDoor
open Go.RowKit Go.ChangeShapes Go.WideShapes Go.Deep Go.ChangeMaps

def textsJ (L : List ByteArray) : JV := JV.mk 5 0 ByteArray.empty (L.map textJ) [] []
theorem capJ {w : World} {base n c : Nat} {a : Option Addr} {xs : List Value} (h : w.ownsRow base 26 6 (.slice a n c) n xs) : n ≤ c ∧ c ≤ 9223372036854775807 := by
  obtain ⟨h1, ⟨e, h2⟩ | ⟨g, cap, cur, e1, e2, e3, e4, e5, e6, e7⟩⟩ := h
  · injection e with _ _ e; omega
  · injection e1 with _ _ e
    subst e
    exact ⟨e4, Nat.le_trans e5 (by decide)⟩
/-- A list of texts as a value, from its owned row. -/
theorem VRep.texts {w : World} {base n c hi : Nat} {a : Option Addr} {L : List ByteArray} (h : w.ownsRow base 26 6 (.slice a n c) n (textsC L)) (hn : n = L.length) (hL : ∀ s ∈ L, s.size ≤ 140737488351232) (hh : w.heap.size ≤ hi) : VRep w hi (listC a n c) (textsJ L) := by
  have hr2 := row_texts h hn hh
  obtain ⟨hr, hc⟩ := capJ h
  refine .mk (listC a n c) (L.map textJ) [] [] (fun i => textC (L.getD i ByteArray.empty)) (fun _ => textC ByteArray.empty) (by simp [listC, hn]) rfl rfl (by simp [listC]; omega) (by simp [listC]) (by simp [listC]) (by simp [listC]; exact hr) (by simp [listC]) (by simp [listC]) (by simp [listC]; omega) (by simp [listC]) (by simp [listC])
    (by simp [listC]) (by simp [listC]) (by simp [listC]) (fun i h => by simp at h) hr2 (Or.inl rfl) (Or.inl rfl) (fun i h => ?_) (fun i h => by simp at h)
  have h2 : i < L.length := by simpa using h
  have e2 : (L.map textJ)[i] = textJ (L.getD i ByteArray.empty) := by simp [List.getElem?_eq_getElem h2]
  rw [e2]
  refine VRep.text _ _ _ ?_
  rw [List.getD_eq_getElem?_getD, List.getElem?_eq_getElem h2]
  exact hL _ (List.getElem_mem h2)

theorem right_parts {j : JV} (h : Right j) : (∀ x ∈ j.list, Right x) ∧ j.text.size ≤ 2000 ∧ j.list.length ≤ 400 := by
  obtain ⟨k, h, t, ls, ks, vs, k0, k6, z1, z2, z3, z4, z5, b1, b2, b3, st, sl, sv, sk, ord, rr1, rr3⟩ := h
  exact ⟨rr1, st, sl⟩
theorem right_text {s : ByteArray} (h : Right (textJ s)) : s.size ≤ 2000 := (right_parts h).2.1
theorem right_texts {L : List ByteArray} (h : Right (textsJ L)) : (∀ s ∈ L, s.size ≤ 2000) ∧ L.length ≤ 400 := by
  obtain ⟨h1, _, h3⟩ := right_parts h
  refine ⟨fun s hs => right_text (h1 _ (List.mem_map_of_mem hs)), ?_⟩
  have : (L.map textJ).length ≤ 400 := h3
  simpa using this

theorem size_getD {L : List ByteArray} (h : ∀ s ∈ L, s.size ≤ 140737488351232) (i : Nat) (hi : i < L.length) : (L.getD i ByteArray.empty).size ≤ 140737488351232 := by
  rw [List.getD_eq_getElem?_getD, List.getElem?_eq_getElem hi]
  exact h _ (List.getElem_mem hi)

theorem rb_to {w : World} {p q : Bool → Prop} {e : Ending} {w' : World} (h : RB w p e w') (g : ∀ r, p r → q r) : RB w q e w' :=
  let ⟨r, he, hp, hb⟩ := h
  ⟨r, he, Lib.hid (g r hp.out), hb⟩

theorem law4_any (A B : List ByteArray) (s : ByteArray) (a a' : Option Addr) (na nb c c' : Nat) (W : World) (hna : na = A.length) (hnb : nb = B.length) (hn1 : na ≤ 9223372036854775807) (hn2 : nb ≤ 9223372036854775807)
    (hA : ∀ x ∈ A, x.size ≤ 140737488351232) (hB : ∀ x ∈ B, x.size ≤ 140737488351232) (hs : s.size ≤ 140737488351232)
    (r1 : Row1 W W.heap.size a na fun i => .string (A.getD i ByteArray.empty)) (r2 : Row1 W W.heap.size a' nb fun i => .string (B.getD i ByteArray.empty)) (hT : Lib.Utf8Tabs 0 1 W) (h2 : 2 ≤ W.heap.size) :
    Calls Tryz.prog 4 #[.slice a na c, .slice a' nb c', .string s] W (RB W fun r => r = true) := by
  refine law4_walk A B s a a' na nb c c' W.heap.size W (Nat.le_refl _) hna hnb hn1 hn2 r1 r2 (fun wr hb => ?_) (fun wr hb => ?_) (fun b c1 c2 g g' w2 wr hb hz o1 o2 hat hbl => ?_)
  · exact zz2_len a na c W.heap.size (fun i => A.getD i ByteArray.empty) wr hn1 (r1.keep hb (Nat.le_refl _)) (fun i hi => size_getD hA i (by omega))
  · exact zz2_len a' nb c' W.heap.size (fun i => B.getD i ByteArray.empty) wr hn2 (r2.keep hb (Nat.le_refl _)) (fun i hi => size_getD hB i (by omega))
  · have hf := fits_any [textsJ A, textsJ B, textJ s] (three (listC (some ⟨g, 0, none⟩) na c1) (listC (some ⟨g', 0, none⟩) nb c2) (textC s)) b 3 wr.heap.size wr hat hbl (by simp) (fun i hi => by
      have hi2 : i = 0 ∨ i = 1 ∨ i = 2 := by simp at hi; omega
      rcases hi2 with rfl | rfl | rfl
      · exact VRep.texts o1 hna hA (Nat.le_refl _)
      · exact VRep.texts o2 hnb hB (Nat.le_refl _)
      · exact VRep.text wr _ s hs) (Nat.le_refl _) (Tabs.keep hT (L := W.heap.size) (Mods.of_below hb) h2) (Nat.le_trans h2 hb.size)
    exact hf.mono fun e w' h => rb_to h fun r hr hrt => by
      have hA' := right_texts (hr hrt 0 (by simp))
      have hB' := right_texts (hr hrt 1 (by simp))
      exact ⟨hA'.1, hA'.2, hB'.1, hB'.2, right_text (hr hrt 2 (by simp))⟩

set_option maxRecDepth 100000 in
/-- An argument of type []string. -/
theorem open_texts {H : Type} {enc : TypeId × Value → H} {W : World} {r : Reach} {b0 : Nat} {v : Value} {d : DataW H} {p : List MemPlace} (hv : Value.okWide Tryz.prog W r b0 24 v)
    (h : DataW.Trod enc Tryz.prog W 0 (fun _ => true) true 24 v d p) (hw : OKW (d.weights Tryz.prog 24)) :
    ∃ (a : Option Addr) (n c : Nat) (ss : List ByteArray), v = .slice a n c ∧ n ≤ 9223372036854775807 ∧ n = ss.length ∧ Row1 W W.heap.size a n (fun i => .string (ss.getD i ByteArray.empty)) ∧ ∀ s ∈ ss, s.size ≤ 140737488351232 := by
  obtain ⟨a0, n0, c0, rfl⟩ := okWide_slice Tryz.underlying24 hv
  obtain ⟨fuel, hf⟩ := h
  have c9 : Tryz.prog.cellsOf 9 = 1 := by kernel_rfl
  have hf' : DataW.trod enc Tryz.prog W 0 (fun _ => true) true fuel 24 [.slice a0 n0 c0] = some (d, p) := hf
  rcases open_strings Tryz.underlying24 Tryz.underlying9 c9 hf' with ⟨hcs, _⟩ | ⟨a, len, cap, ss, hcs, _, hl, hm, hz, hx, hcell, _⟩
  · simp only [List.cons.injEq, and_true] at hcs
    injection hcs with e1 e2 e3
    subst e1 e2 e3
    exact ⟨none, 0, 0, [], rfl, by omega, rfl, Or.inl rfl, fun s hs => by simp at hs⟩
  · simp only [List.cons.injEq, and_true] at hcs
    injection hcs with e1 e2 e3
    subst e1 e2 e3
    have hz' : ss.length = c0 := by simpa using hz
    have hd : d = _ := congrArg Prod.fst hx
    have b9 : Tryz.prog.bytesOf 9 = 16 := by kernel_rfl
    rw [hd, DataW.weights, Tryz.underlying24] at hw
    simp only [okw_cons, okw_append, strs, List.length_map, List.length_take, List.length_drop, b9] at hw
    refine ⟨some a, n0, c0, ss.take n0, rfl, by omega, by simp; omega, row1_of fun i hi => ?_, fun s hs => ?_⟩
    · rw [hcell i (by omega), List.getD_eq_getElem?_getD, List.getD_eq_getElem?_getD, List.getElem?_take_of_lt hi]
    · have := okw_mem (List.mem_map_of_mem (f := fun s : ByteArray => (DataW.lit (.string s.data.toList) : DataW H)) hs) hw.2.1
      rw [DataW.weights, okw_cons] at this
      exact this.1

set_option maxRecDepth 100000 in
/-- An argument of type string. -/
theorem open_text {H : Type} {enc : TypeId × Value → H} {W : World} {r : Reach} {b0 : Nat} {v : Value} {d : DataW H} {p : List MemPlace} (hv : Value.okWide Tryz.prog W r b0 9 v)
    (h : DataW.Trod enc Tryz.prog W 0 (fun _ => true) true 9 v d p) (hw : OKW (d.weights Tryz.prog 9)) : ∃ s : ByteArray, v = .string s ∧ s.size ≤ 140737488351232 := by
  obtain ⟨s, rfl, hd, _, _⟩ := open_string Tryz.underlying9 hv h
  rw [hd, DataW.weights, okw_cons] at hw
  exact ⟨s, rfl, hw.1⟩
end Go.Proofs.YtaockngppbeanaaGreatDoor
