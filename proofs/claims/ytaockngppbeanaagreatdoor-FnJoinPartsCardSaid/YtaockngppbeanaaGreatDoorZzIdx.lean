/- gojq.ZzIndices at every pair of values that are not null. -/
import Derived.Test.YtaockngppbeanaaGreatDoorResult
namespace Go.Proofs.YtaockngppbeanaaGreatDoor
open Go.RowKit

def numJ (k : Nat) : JV := JV.mk 3 (2 * k) ByteArray.empty [] [] []
def runesJ (s : ByteArray) : List JV := (runesOf s).map numJ
def part (j : JV) : List JV := if j.kind = 5 then j.list else [j]
/-- The places at which the second stands in the first; none: an error. -/
noncomputable def spots (j1 j2 : JV) : Option (List Nat) :=
  if j1.kind = 5 then some (pick (fun k => (j1.list.drop k).take (part j2).length = part j2) (j1.list.length + 1 - (part j2).length))
  else if j1.kind = 4 ∧ j2.kind = 4 then some (pick (fun k => ((runesJ j1.text).drop k).take (runesJ j2.text).length = runesJ j2.text) ((runesJ j1.text).length + 1 - (runesJ j2.text).length))
  else none

abbrev nmI : ByteArray := ⟨#[105, 110, 100, 105, 99, 101, 115]⟩
set_option maxRecDepth 100000 in
set_option maxHeartbeats 1000000 in
theorem zz_idx (x y : Value) (L : List Nat) (w : World) (h : Calls Tryz.prog 102 #[.string nmI, x, y, fv 103] w (RIdx w L)) : Calls Tryz.prog 29 #[x, y] w (RIdx w L) := by
  have h61 : Calls Tryz.prog 61 #[x, y] w (RIdx w L) := by
    go_enter Tryz.func61, Tryz.ntmps61
    go_wp2_with fail
    refine h.mono ?_
    rintro e w3 ⟨a, c, n, hn, rfl, ho, hb⟩
    have HN := Lib.hid hn
    clear hn
    go_wp2_with fail
    go_ret
    exact ⟨a, c, n, HN.out, rfl, ho, hb⟩
  go_enter Tryz.func29, Tryz.ntmps29
  go_wp2_with fail
  refine h61.mono ?_
  rintro e w3 ⟨a, c, n, hn, rfl, ho, hb⟩
  have HN := Lib.hid hn
  clear hn
  go_wp2_with fail
  go_ret
  exact ⟨a, c, n, HN.out, rfl, ho, hb⟩
set_option maxRecDepth 100000 in
set_option maxHeartbeats 1000000 in
theorem zz_err (x y : Value) (w : World) (h : Calls Tryz.prog 102 #[.string nmI, x, y, fv 103] w (RErr w)) : Calls Tryz.prog 29 #[x, y] w (RErr w) := by
  have h61 : Calls Tryz.prog 61 #[x, y] w (RErr w) := by
    go_enter Tryz.func61, Tryz.ntmps61
    go_wp2_with fail
    refine h.mono ?_
    rintro e w3 ⟨p, rfl, hb⟩
    go_wp2_with fail
    go_ret
    exact ⟨p, rfl, hb⟩
  go_enter Tryz.func29, Tryz.ntmps29
  go_wp2_with fail
  refine h61.mono ?_
  rintro e w3 ⟨p, rfl, hb⟩
  go_wp2_with fail
  go_ret
  exact ⟨p, rfl, hb⟩

/-- What ZzIndices gives. -/
def RZ (w : World) (o : Option (List Nat)) : Ending → World → Prop := match o with | some L => RIdx w L | none => RErr w

theorem GRep.ints {w : World} {lo hi b n : Nat} {L : List Nat} (hn : n = L.length) (hl : L.length ≤ 2000) (hL : ∀ k ∈ L, k ≤ 2147483647) (hr : Row w lo hi (some ⟨b, 0, none⟩) n (fun i => iv (L.getD i 0))) :
    GRep w lo hi (.iface 71 (.slice (some ⟨b, 0, none⟩) (L.map numJ).length (L.map numJ).length)) (JV.mk 5 0 ByteArray.empty (L.map numJ) [] []) := by
  have e : (L.map numJ).length = n := by simp [hn]
  refine .list _ _ (fun i => iv (L.getD i 0)) _ (Nat.le_refl _) (by simp; omega) (by rw [e]; exact hr) (fun i hi => ?_)
  have hi2 : i < L.length := by simpa using hi
  have e2 : (L.map numJ)[i] = numJ (L.getD i 0) := by simp [List.getElem?_eq_getElem hi2]
  rw [e2]
  have e3 : L.getD i 0 = L[i] := by simp [List.getElem?_eq_getElem hi2]
  have := hL _ (List.getElem_mem hi2)
  rw [e3]
  exact .int _ (by omega) (by omega)

set_option maxHeartbeats 2000000 in
theorem zz_any (j1 j2 : JV) (x y : Value) (lo hi lo' hi' : Nat) (w : World) (g1 : GRep w lo hi x j1) (g2 : GRep w lo' hi' y j2) (hB1 : hi ≤ w.heap.size) (hB2 : hi' ≤ w.heap.size)
    (k1 : j1.kind ≠ 0) (k2 : j2.kind ≠ 0) (l1 : j1.list.length ≤ 400) (l2 : j2.list.length ≤ 400) (e1 : j1.kind = 5 → j2.kind = 5 → 1 ≤ j2.list.length) (e2 : j1.kind = 4 → j2.kind = 4 → 1 ≤ (runesOf j2.text).length) :
    Calls Tryz.prog 29 #[x, y] w (RZ w (spots j1 j2)) := by
  cases g1 with
  | null => exact absurd rfl k1
  | fls =>
    refine zz_err _ _ _ ?_
    cases g2 with
    | null => exact absurd rfl k2
    | _ => exact idx_err _ _ _ _ _ (Or.inl ⟨rfl, _, rfl⟩) _
  | tru =>
    refine zz_err _ _ _ ?_
    cases g2 with
    | null => exact absurd rfl k2
    | _ => exact idx_err _ _ _ _ _ (Or.inl ⟨rfl, _, rfl⟩) _
  | int n _ _ =>
    refine zz_err _ _ _ ?_
    cases g2 with
    | null => exact absurd rfl k2
    | _ => exact idx_err _ _ _ _ _ (Or.inr (Or.inl ⟨rfl, _, rfl⟩)) _
  | flt n _ _ _ =>
    refine zz_err _ _ _ ?_
    cases g2 with
    | null => exact absurd rfl k2
    | _ => exact idx_err _ _ _ _ _ (Or.inr (Or.inr (Or.inl ⟨rfl, _, rfl⟩))) _
  | map r _ _ _ _ _ _ _ _ _ _ _ =>
    refine zz_err _ _ _ ?_
    cases g2 with
    | null => exact absurd rfl k2
    | _ => exact idx_err _ _ _ _ _ (Or.inr (Or.inr (Or.inr ⟨rfl, _, rfl⟩))) _
  | text s hs =>
    cases g2 with
    | null => exact absurd rfl k2
    | fls => exact zz_err _ _ _ (idx_text_err _ _ _ _ (Or.inl ⟨rfl, _, rfl⟩) _)
    | tru => exact zz_err _ _ _ (idx_text_err _ _ _ _ (Or.inl ⟨rfl, _, rfl⟩) _)
    | int _ _ _ => exact zz_err _ _ _ (idx_text_err _ _ _ _ (Or.inr (Or.inl ⟨rfl, _, rfl⟩)) _)
    | flt _ _ _ _ => exact zz_err _ _ _ (idx_text_err _ _ _ _ (Or.inr (Or.inr (Or.inl ⟨rfl, _, rfl⟩))) _)
    | list _ _ _ _ _ _ _ _ => exact zz_err _ _ _ (idx_text_err _ _ _ _ (Or.inr (Or.inr (Or.inr (Or.inl ⟨rfl, _, _, _, rfl⟩)))) _)
    | map _ _ _ _ _ _ _ _ _ _ _ _ => exact zz_err _ _ _ (idx_text_err _ _ _ _ (Or.inr (Or.inr (Or.inr (Or.inr ⟨rfl, _, rfl⟩)))) _)
    | text t ht =>
      have hlt := Nat.le_trans (runes_len t t.size 0) ht
      have hls := Nat.le_trans (runes_len s s.size 0) hs
      refine zz_idx _ _ _ _ (idx_text_text nmI s t hs ht _ w (fun b1 b2 n1 n2 w1 lo hi lo' hi' hn1 hn2 h1 h2 hr1 hr2 => ?_))
      have q1 := GRep.ints hn1 hls (runes_le s s.size 0) hr1
      have q2 := GRep.ints hn2 hlt (runes_le t t.size 0) hr2
      have := indices_walk _ _ _ _ _ _ w1 lo hi lo' hi' h1 h2 (by rw [List.length_map]; exact hls) (by rw [List.length_map]; exact hlt) q1 q2 (by rw [List.length_map]; exact e2 rfl rfl)
      have en1 : ((runesOf s).map numJ).length = n1 := by rw [List.length_map, hn1]
      have en2 : ((runesOf t).map numJ).length = n2 := by rw [List.length_map, hn2]
      simp only [runesJ, JV.text]
      rw [en1, en2] at this ⊢
      exact this
  | list a1 c1 C1 ls hlc hc hr h1 =>
    have g1' : GRep w lo hi (.iface 71 (.slice a1 ls.length c1)) (JV.mk 5 0 ByteArray.empty ls [] []) := .list a1 c1 C1 ls hlc hc hr h1
    have one : ∀ (j : JV) (t : TypeId) (v : Value), j.kind ≠ 5 → GRep w lo' hi' (.iface t v) j → ((t = 4 ∧ ∃ b, v = .bool b) ∨ (t = 3 ∧ ∃ n, v = .int .i64 n) ∨ (t = 70 ∧ ∃ n, v = .float .f64 n) ∨ (t = 9 ∧ ∃ s, v = .string s) ∨ (t = 74 ∧ ∃ r, v = .map r)) →
        Calls Tryz.prog 29 #[.iface 71 (.slice a1 ls.length c1), .iface t v] w (RZ w (spots (JV.mk 5 0 ByteArray.empty ls [] []) j)) := by
      intro j t v hj5 hg ht
      have hp : part j = [j] := by simp [part, hj5]
      have hs : spots (JV.mk 5 0 ByteArray.empty ls [] []) j = some (pick (fun k => (ls.drop k).take [j].length = [j]) (ls.length + 1 - [j].length)) := by simp [spots, JV.kind, JV.list, hp]
      rw [hs]
      refine zz_idx _ _ _ _ (idx_list_one nmI a1 _ c1 t v ht _ w ?_)
      have hb : Below w.heap.size w (w.alloc (.cells #[.iface t v] 20)) := (Below.refl _ _).alloc (Nat.le_refl _) _
      refine indices_walk ls [j] a1 _ c1 1 _ lo hi 0 (w.heap.size + 1) (by have := hb.size; omega) (by simp) (by have : ls.length ≤ 400 := l1; omega) (by simp) (g1'.keep (.of_below hb hB1) (Nat.le_refl _) (Nat.le_refl _)) ?_ (by simp)
      refine .list _ _ (fun _ => .iface t v) [j] (Nat.le_refl _) (by decide) (Or.inr ⟨w.heap.size, 0, rfl, Nat.zero_le _, by omega, fun i hi => ?_⟩) (fun i hi => ?_)
      · have e : i = 0 := by simpa using hi
        subst e
        simp
      · have e : i = 0 := by simpa using hi
        subst e
        exact hg.keep (.of_below hb hB2) (Nat.zero_le _) (by omega)
    cases g2 with
    | null => exact absurd rfl k2
    | fls => exact one _ _ _ (by simp [JV.kind]) .fls (Or.inl ⟨rfl, _, rfl⟩)
    | tru => exact one _ _ _ (by simp [JV.kind]) .tru (Or.inl ⟨rfl, _, rfl⟩)
    | int n a b => exact one _ _ _ (by simp [JV.kind]) (.int n a b) (Or.inr (Or.inl ⟨rfl, _, rfl⟩))
    | flt h b hb ho => exact one _ _ _ (by simp [JV.kind]) (.flt h b hb ho) (Or.inr (Or.inr (Or.inl ⟨rfl, _, rfl⟩)))
    | text s hs => exact one _ _ _ (by simp [JV.kind]) (.text s hs) (Or.inr (Or.inr (Or.inr (Or.inl ⟨rfl, _, rfl⟩))))
    | map r ks vs V a b c d e f g h => exact one _ _ _ (by simp [JV.kind]) (.map r ks vs V a b c d e f g h) (Or.inr (Or.inr (Or.inr (Or.inr ⟨rfl, _, rfl⟩))))
    | list a2 c2 C2 ls2 hlc2 hc2 hr2 h2 =>
      refine zz_idx _ _ _ _ (idx_list_list nmI a1 a2 _ c1 _ c2 _ w ?_)
      have hp : part (JV.mk 5 0 ByteArray.empty ls2 [] []) = ls2 := by simp [part, JV.kind, JV.list]
      rw [hp]
      exact indices_walk ls ls2 a1 a2 c1 c2 w lo hi lo' hi' hB1 hB2 (by have : ls.length ≤ 400 := l1; show ls.length ≤ 2000; omega) (by have : ls2.length ≤ 400 := l2; omega) g1' (.list a2 c2 C2 ls2 hlc2 hc2 hr2 h2) (e1 rfl rfl)
end Go.Proofs.YtaockngppbeanaaGreatDoor
