/- gojq.indices: the places at which a row of values stands. -/
import Derived.Test.YtaockngppbeanaaGreatDoorExplode
import Derived.WalkKit
import Derived.OwnWalk
namespace Go.Proofs.YtaockngppbeanaaGreatDoor
open Go.RowKit

/-- The numbers below n of which P holds. -/
noncomputable def pick (P : Nat → Prop) (n : Nat) : List Nat := (List.range n).filter (fun k => @decide (P k) (Classical.propDecidable _))
theorem pick_zero (P : Nat → Prop) : pick P 0 = [] := rfl
theorem pick_yes {P : Nat → Prop} {n : Nat} (h : P n) : pick P (n + 1) = pick P n ++ [n] := by
  simp [pick, List.range_succ, List.filter_append, h]
theorem pick_no {P : Nat → Prop} {n : Nat} (h : ¬ P n) : pick P (n + 1) = pick P n := by
  simp [pick, List.range_succ, List.filter_append, h]
theorem pick_len (P : Nat → Prop) (n : Nat) : (pick P n).length ≤ n := by
  have := List.length_filter_le (fun k => @decide (P k) (Classical.propDecidable _)) (List.range n)
  simpa [pick] using this
theorem pick_mem {P : Nat → Prop} {n k : Nat} : k ∈ pick P n ↔ k < n ∧ P k := by
  simp [pick]
theorem pick_congr {P Q : Nat → Prop} {n : Nat} (h : ∀ k, k < n → (P k ↔ Q k)) : pick P n = pick Q n := by
  unfold pick
  refine List.filter_congr (fun k hk => ?_)
  have := h k (List.mem_range.1 hk)
  simp [this]

theorem ownsRow_keep {w w' : World} {base e size n : Nat} {v : Value} {xs : List Value} (h : w.ownsRow base e size v n xs) (hb : Below w.heap.size w w') : w'.ownsRow base e size v n xs := by
  obtain ⟨h1, h2 | ⟨g, cap, cur, e1, e2, e3, e4, e5, e6, e7⟩⟩ := h
  · exact ⟨h1, Or.inl h2⟩
  · exact ⟨h1, Or.inr ⟨g, cap, cur, e1, e2, (hb.block g (Array.getElem?_eq_some_iff.1 e3).1).trans e3, e4, e5, e6, e7⟩⟩

theorem ownsRow_row {w : World} {base hi n : Nat} {a : Option Addr} {m c : Nat} {xs : List Value} {C : Nat → Value} (h : w.ownsRow base 20 1 (.slice a m c) n xs) (hx : ∀ i, i < n → xs[i]? = some (C i)) (hh : w.heap.size ≤ hi) :
    m = n ∧ n ≤ c ∧ Row w base hi a n C := by
  obtain ⟨h1, ⟨e, h2⟩ | ⟨g, cap, cur, e1, e2, e3, e4, e5, e6, e7⟩⟩ := h
  · injection e with x1 x2 x3
    subst x1 x2 x3 h2
    exact ⟨rfl, Nat.le_refl _, Or.inl rfl⟩
  · injection e1 with x1 x2 x3
    subst x1 x2 x3
    refine ⟨rfl, e4, Or.inr ⟨g, 0, rfl, e2, ?_, fun i hi2 => ?_⟩⟩
    · have := (Array.getElem?_eq_some_iff.1 e3).1; omega
    · have hc : w.cell? ⟨g, 0 + i, none⟩ = cur[i]? := by simp [World.cell?, e3]
      rw [hc, ← hx i hi2, ← e7, List.getElem?_take_of_lt (by omega)]
      simp

theorem GRep.part {w : World} {lo hi b off n c k m : Nat} {C : Nat → Value} {ls : List JV} (hn : n = ls.length) (hr : ∀ i, i < n → w.cell? ⟨b, off + i, none⟩ = some (C i)) (hlo : lo ≤ b) (hhi : b < hi) (hc : n ≤ c) (hc2 : c ≤ 140737488355328)
    (h1 : ∀ i (h : i < ls.length), GRep w lo hi (C i) ls[i]) (hkm : k + m ≤ n) : GRep w lo hi (.iface 71 (.slice (some ⟨b, off + k, none⟩) m (c - k))) (JV.mk 5 0 ByteArray.empty ((ls.drop k).take m) [] []) := by
  have e : m = ((ls.drop k).take m).length := by simp; omega
  generalize hq : (ls.drop k).take m = q at *
  rw [e]
  refine .list _ _ (fun i => C (k + i)) q (by omega) (by omega) (Or.inr ⟨b, off + k, rfl, hlo, hhi, fun i hi => ?_⟩) (fun i hi => ?_)
  · rw [Nat.add_assoc]; exact hr _ (by omega)
  · have e2 : q[i] = ls[k + i]'(by omega) := by
      subst hq; simp
    rw [e2]; exact h1 _ _

theorem GRep.listInv {w : World} {lo hi n c : Nat} {a : Option Addr} {ls : List JV} (h : GRep w lo hi (.iface 71 (.slice a n c)) (JV.mk 5 0 ByteArray.empty ls [] [])) :
    n = ls.length ∧ n ≤ c ∧ c ≤ 140737488355328 ∧ ∃ C, Row w lo hi a n C ∧ ∀ i (h : i < ls.length), GRep w lo hi (C i) ls[i] := by
  cases h with
  | list _ _ C _ hlc hc hr h1 => exact ⟨rfl, hlc, hc, C, hr, h1⟩

def RIdx (w : World) (L : List Nat) (e : Ending) (w' : World) : Prop :=
  ∃ a c n, n = L.length ∧ e = .returned (.iface 71 (.slice a n c)) ∧ w'.ownsRow w.heap.size 20 1 (.slice a n c) n (L.map iv) ∧ Below w.heap.size w w'
theorem ownsRow_slice {w : World} {base e size n : Nat} {v : Value} {xs : List Value} (h : w.ownsRow base e size v n xs) : ∃ a c, v = .slice a n c := by
  obtain ⟨h1, ⟨e, h2⟩ | ⟨g, cap, cur, e1, e2, e3, e4, e5, e6, e7⟩⟩ := h
  · exact ⟨none, 0, by rw [e, h2]⟩
  · exact ⟨_, _, e1⟩

set_option maxRecDepth 100000 in
set_option maxHeartbeats 4000000 in
theorem indices_walk (ls1 ls2 : List JV) (a1 a2 : Option Addr) (c1 c2 : Nat) (w : World) (lo hi lo' hi' : Nat) (hB1 : hi ≤ w.heap.size) (hB2 : hi' ≤ w.heap.size) (hl : ls1.length ≤ 2000) (hl2 : ls2.length ≤ 2000)
    (g1 : GRep w lo hi (.iface 71 (.slice a1 ls1.length c1)) (JV.mk 5 0 ByteArray.empty ls1 [] [])) (g2 : GRep w lo' hi' (.iface 71 (.slice a2 ls2.length c2)) (JV.mk 5 0 ByteArray.empty ls2 [] [])) (hm0 : 1 ≤ ls2.length) :
    Calls Tryz.prog 103 #[.slice a1 ls1.length c1, .slice a2 ls2.length c2] w (RIdx w (pick (fun k => (ls1.drop k).take ls2.length = ls2) (ls1.length + 1 - ls2.length))) := by
  obtain ⟨P, hP⟩ : ∃ P : Nat → Prop, P = (fun k => (ls1.drop k).take ls2.length = ls2) := ⟨_, rfl⟩
  rw [← hP]
  have hcmp : Hid (∀ (k : Nat) (wr : World), k + ls2.length ≤ ls1.length → Below w.heap.size w wr → ∀ b off, a1 = some ⟨b, off, none⟩ → Calls Tryz.prog 126 #[.iface 71 (.slice (some ⟨b, off + k, none⟩) ls2.length (c1 - k)), .iface 71 (.slice a2 ls2.length c2)] wr (RI wr fun c => c = 0 ↔ P k)) := Lib.hid (fun k wr hk hb b off ha => by
    have g1' := g1.keep (.of_below hb hB1) (Nat.le_refl _) (Nat.le_refl _)
    have g2' := g2.keep (.of_below hb hB2) (Nat.le_refl _) (Nat.le_refl _)
    subst ha
    obtain ⟨_, hlc, hc, C, hr, h1⟩ := g1'.listInv
    · rcases hr with hr | ⟨b', off', ha', hlo, hhi, hr⟩
      · omega
      · injection ha' with ha'
        injection ha' with x1 x2
        subst x1 x2
        have hp := GRep.part (k := k) (m := ls2.length) rfl hr hlo hhi hlc hc h1 hk
        have := compare_any _ _ _ _ _ _ _ _ _ wr (Nat.lt_succ_self _) hp g2' (by have := hb.size; omega) (by have := hb.size; omega)
        refine RI.to ?_ this
        rw [hP]
        simp)
  obtain ⟨hc0, hc1⟩ : ls1.length ≤ c1 ∧ c1 ≤ 140737488355328 := by
    obtain ⟨_, hlc, hc, C, hr, h1⟩ := g1.listInv
    exact ⟨hlc, hc⟩
  have ha : ls1.length = 0 ∨ ∃ b off, a1 = some ⟨b, off, none⟩ := by
    obtain ⟨_, hlc, hc, C, hr, h1⟩ := g1.listInv
    exact hr.imp id (fun ⟨b, off, h, _⟩ => ⟨b, off, h⟩)
  clear g1 g2
  have HP := Lib.hid hP
  clear hP
  obtain ⟨n, hn⟩ : ∃ n, n = ls1.length := ⟨_, rfl⟩
  obtain ⟨m, hm⟩ : ∃ m, m = ls2.length := ⟨_, rfl⟩
  simp only [← hn, ← hm] at *
  clear hn hm
  have hfin : Hid (∀ v w', w'.ownsRow w.heap.size 20 1 v (pick P (n + 1 - m)).length ((pick P (n + 1 - m)).map iv) → Below w.heap.size w w' → RIdx w (pick P (n + 1 - m)) (.returned (.iface 71 v)) w') := Lib.hid (fun v w' h1 h2 => by
    obtain ⟨a, c, rfl⟩ := ownsRow_slice h1
    exact ⟨a, c, _, rfl, rfl, h1, h2⟩)
  obtain ⟨POST, hPO⟩ : ∃ Q, RIdx w (pick P (n + 1 - m)) = Q := ⟨_, rfl⟩
  rw [hPO] at hfin ⊢
  clear hPO
  obtain ⟨i0, hi0, hz0, hz1, hz2⟩ := info_parts info20
  have hmz : ((m : Int) == 0) = false := by simp; omega
  go_enter Tryz.func103, Tryz.ntmps103
  go_wp2_with fail
  go_loopw [5, 19] (fun v i wr => ∃ k : Nat, k ≤ n + 1 - m ∧ i = .int .i64 k ∧ wr.ownsRow w.heap.size 20 1 v (pick P k).length ((pick P k).map iv) ∧ Below w.heap.size w wr) (fun _ i _ => (n + 1 - m) - (intOf i).toNat)
  case atStart =>
    refine ⟨0, Nat.zero_le _, rfl, ?_, (Below.refl _ _).alloc (Nat.le_refl _) _⟩
    exact World.ownsRow_made w #[] 0 (Nat.le_refl _) (by decide) rfl
  case round =>
    obtain ⟨k, hk, rfl, hown, hbw⟩ := hrel
    by_cases hlt : k < n + 1 - m
    · obtain hn0 | ⟨b, off, rfl⟩ := ha
      · omega
      have hcal := fun wr hb => hcmp.out k wr (by omega) hb b off rfl
      clear hcmp
      have Hown := Lib.hid hown
      clear hown
      have hkm : k + m ≤ n := by omega
      have hkc : (k : Int) + (m : Int) ≤ (c1 : Int) := by omega
      go_wp2_with fail
      refine (hcal _ hbw).mono ?_
      rintro e w3 ⟨r, rfl, hr, hb3⟩
      have hbw3 : Below w.heap.size w w3 := hbw.trans (hb3.mono hbw.size)
      have hown3 := ownsRow_keep Hown.out hb3
      have hs3 : w.heap.size ≤ w3.heap.size := hbw3.size
      by_cases hr0 : r = 0
      · have hPk := hr.out.1 hr0
        subst hr0
        have Hown3 := Lib.hid hown3
        clear hown3
        have hlen := pick_len P k
        go_wp2_with (first
          | (at_builtin; refine wpList_append_own _ rfl _ _ 71 rfl w.heap.size 20 i0 .nilIface 1 16 Tryz.underlying71 hi0 hz0 hz1 hz2 rfl (by decide) _ _ _ rfl (Hown3.out.alloc _) ⟨w3.heap.size, 0, none⟩ 1 1 [iv k] rfl rfl (cell_one_new _ _ _) (fun u hu => by simp [iv] at hu; subst hu; rfl) (by unfold maxLen; omega) (by omega) (by simp; omega) ?_; intro v' w1 hown' hgrow _; have hfw : w3.heap.size ≤ w1.heap.size := Nat.le_trans (by simp) hgrow.size)
          | fail)
        have hrel : ∃ k' : Nat, k' ≤ n + 1 - m ∧ Value.int .i64 ((k : Int) + 1) = .int .i64 k' ∧ w1.ownsRow w.heap.size 20 1 v' (pick P k').length ((pick P k').map iv) ∧ Below w.heap.size w w1 :=
          ⟨k + 1, by omega, by go_num, by rw [pick_yes hPk]; simpa using hown', (hbw3.alloc (by omega) _).grown hgrow (by simp; omega) (fun j ej => (Hown3.out.lt j ej).1)⟩
        go_roundw
        case rel => first | exact hrel | ((repeat apply Exists.intro); exact ⟨hrel, by try rfl⟩)
        case measure => simp [intOf]; omega
      · have h0' : (r == 0) = false := by simpa using hr0
        have h0'' : (r != 0) = true := by simpa using hr0
        have hPk : ¬ P k := fun h => hr0 (hr.out.2 h)
        have HR := Lib.hid hr0; clear hr0
        have Hown3 := Lib.hid hown3
        clear hown3
        go_wp2_with fail
        have hrel : ∃ k' : Nat, k' ≤ n + 1 - m ∧ Value.int .i64 ((k : Int) + 1) = .int .i64 k' ∧ w3.ownsRow w.heap.size 20 1 u5 (pick P k').length ((pick P k').map iv) ∧ Below w.heap.size w w3 := ⟨k + 1, by omega, by go_num, by rw [pick_no hPk]; exact Hown3.out, hbw3⟩
        go_roundw
        case rel => first | exact hrel | ((repeat apply Exists.intro); exact ⟨hrel, by try rfl⟩)
        case measure => simp [intOf]; omega
    · have hkn : k = n + 1 - m := by omega
      subst hkn
      have h2 := hfin.out u5 wr hown hbw
      clear hown
      have Hf := Lib.hid h2
      clear h2
      go_wp2_with fail
      exact Hf.out
end Go.Proofs.YtaockngppbeanaaGreatDoor
