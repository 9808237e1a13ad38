/- impl.toGo of a list of texts, up to 800 of them. Condition: texts of 2000 bytes at most. -/
import Derived.Test.YtaockngppbeanaaGreatDoorToGo
namespace Go.Proofs.YtaockngppbeanaaGreatDoor
open Go.RowKit

set_option maxRecDepth 100000 in
set_option maxHeartbeats 4000000 in
theorem listToGo_800 (ls : List JV) (a : Option Addr) (c : Nat) (L : Nat → VC) (B : Nat) (w : World) (hB : B ≤ w.heap.size) (hl : ls.length ≤ 800) (r1 : Row6 w B a ls.length L)
    (hcall : ∀ (k : Nat) (wr : World), k < ls.length → Below w.heap.size w wr → Calls Tryz.prog 27 #[(L k).val] wr (RG wr (ls.getD k dfl))) :
    Calls Tryz.prog 58 #[.slice a ls.length c] w (RL w ls) := by
  have hfin : Hid (∀ w', Filled w' w.heap.size ls.length ls.length ls → Below w.heap.size w w' → RL w ls (.returned (.tuple #[.slice (some ⟨w.heap.size, 0, none⟩) ls.length ls.length, .bool true])) w') := fun w' h1 h2 => ⟨_, rfl, rfl, h1, h2⟩
  obtain ⟨POST, hP⟩ : ∃ P, RL w ls = P := ⟨_, rfl⟩
  rw [hP] at hfin ⊢
  clear hP
  generalize hn : ls.length = n at *
  clear hn
  have hmk := run_make_row' (P := Tryz.prog) 71 20 .nilIface 16 Tryz.underlying71 info20 rfl .i64 .i64 n (by omega) (by omega)
  go_enter Tryz.func58, Tryz.ntmps58
  go_wp2_with fail
  go_loopw [14] (fun i wr => ∃ k : Nat, k ≤ n ∧ i = .int .i64 k ∧ Below w.heap.size w wr ∧ w.heap.size < wr.heap.size ∧ Filled wr w.heap.size n k ls) (fun i _ => n - (intOf i).toNat)
  case atStart => exact ⟨0, Nat.zero_le _, rfl, (Below.refl _ _).alloc (Nat.le_refl _) _, by simp, madeCells #[.nilIface] n, heap_alloc_new _ _, size_madeCells _ _, fun q hq => by omega⟩
  case round =>
    obtain ⟨k, hk, rfl, hbw, hsz, hfil⟩ := hrel
    by_cases hlt : k < n
    · rcases r1 with r1 | ⟨b, off, ha, hlb, r1⟩
      · omega
      obtain ⟨c0, c1, c2, c3, c4, c5⟩ := ((r1 k hlt).keep (w' := wr) hbw (by omega))
      have hc := hcall k
      have Hf := Lib.hid hfil
      obtain ⟨arr, g1, g2, _⟩ := hfil
      go_wp2_with fail
      refine (hc _ hlt (hbw.alloc (by omega) _)).mono ?_
      rintro e w7 ⟨v, rfl, hv, hb7⟩
      have hb7' := ((Below.refl wr.heap.size wr).alloc (Nat.le_refl _) _).trans (hb7.mono (by simp))
      have g3 := (hb7'.block _ hsz).trans g1
      have g4 := cell_of_block g3 k
      have g5 := g4.1.trans (Array.getElem?_eq_getElem (by omega))
      have g6 := g4.2
      have Hv := Lib.hid hv
      have hs8 : ∀ u, w.heap.size < (w7.setCell ⟨w.heap.size, k, none⟩ u).heap.size := fun u => by
        show w.heap.size < (w7.heap.modify _ _).size
        rw [Array.size_modify]; have := hb7'.size; omega
      clear g1 g3 g4
      rcases hv.iface with rfl | ⟨t, x, rfl⟩
      all_goals clear hv
      · go_wp2_with fail
        have hnew : Hid (Filled (w7.setCell ⟨w.heap.size, k, none⟩ Value.nilIface) w.heap.size n (k + 1) ls) := Hf.out.step hb7' hsz hlt (Hv.out.keep (SameOn.refl _ _ _) (by simp) (Nat.le_refl _))
        go_roundw
        case rel =>
          have hrel : ∃ k' : Nat, k' ≤ n ∧ Value.int .i64 ((k : Int) + 1) = .int .i64 k' ∧ Below w.heap.size w (w7.setCell ⟨w.heap.size, k, none⟩ Value.nilIface) ∧ w.heap.size < (w7.setCell ⟨w.heap.size, k, none⟩ Value.nilIface).heap.size ∧ Filled (w7.setCell ⟨w.heap.size, k, none⟩ Value.nilIface) w.heap.size n k' ls :=
            ⟨k + 1, by omega, by go_num, (hbw.trans (hb7'.mono hbw.size)).setCell (Nat.le_refl _) _, hs8 _, hnew.out⟩
          first | exact hrel | ((repeat apply Exists.intro); exact ⟨hrel, by first | rfl | (rw [ha]; try rfl)⟩)
        case measure => simp [intOf]; omega
      · go_wp2_with fail
        have hnew : Hid (Filled (w7.setCell ⟨w.heap.size, k, none⟩ (Value.iface t x)) w.heap.size n (k + 1) ls) := Hf.out.step hb7' hsz hlt (Hv.out.keep (SameOn.refl _ _ _) (by simp) (Nat.le_refl _))
        go_roundw
        case rel =>
          have hrel : ∃ k' : Nat, k' ≤ n ∧ Value.int .i64 ((k : Int) + 1) = .int .i64 k' ∧ Below w.heap.size w (w7.setCell ⟨w.heap.size, k, none⟩ (Value.iface t x)) ∧ w.heap.size < (w7.setCell ⟨w.heap.size, k, none⟩ (Value.iface t x)).heap.size ∧ Filled (w7.setCell ⟨w.heap.size, k, none⟩ (Value.iface t x)) w.heap.size n k' ls :=
            ⟨k + 1, by omega, by go_num, (hbw.trans (hb7'.mono hbw.size)).setCell (Nat.le_refl _) _, hs8 _, hnew.out⟩
          first | exact hrel | ((repeat apply Exists.intro); exact ⟨hrel, by first | rfl | (rw [ha]; try rfl)⟩)
        case measure => simp [intOf]; omega
    · go_wp2_with fail
      obtain rfl : k = n := by omega
      exact hfin.out _ hfil hbw

/-- A text as a value; its six cells. -/
def textJ (s : ByteArray) : JV := JV.mk 4 0 s [] [] []
def textC (s : ByteArray) : VC := { kind := 4, half := 0, text := s, la := none, ln := 0, lc := 0, ka := none, kn := 0, kc := 0, va := none, vn := 0, vc := 0 }
theorem VRep.text (w : World) (B : Nat) (s : ByteArray) (hs : s.size ≤ 140737488351232) : VRep w B (textC s) (textJ s) :=
  .mk (textC s) [] [] [] (fun _ => textC s) (fun _ => textC s) rfl rfl rfl (by simp [textC]) (by simp [textC]) (by simp [textC]) (by simp [textC]) (by simp [textC]) (by simp [textC]) (by simp [textC]) (by simp [textC]) (by simp [textC])
    hs (by simp [textC]) (by simp [textC]) (fun i h => by simp at h) (Or.inl rfl) (Or.inl rfl) (Or.inl rfl) (fun i h => by simp at h) (fun i h => by simp at h)
theorem Right.text (s : ByteArray) (hs : s.size ≤ 2000) : Right (textJ s) :=
  .mk _ _ _ _ _ _ (by decide) (by decide) (Or.inr rfl) (Or.inl rfl) (Or.inr rfl) (Or.inr rfl) rfl (by omega) (by omega) (Or.inl (by omega)) hs (by decide) (by decide) (fun s h => by simp at h) (fun i h => by simp at h) (fun x h => by simp at h) (fun x h => by simp at h)

/-- A list of texts, as gojq takes it. -/
def RTx (w : World) (ss : List ByteArray) (e : Ending) (w' : World) : Prop :=
  ∃ b, e = .returned (.tuple #[.iface 71 (.slice (some ⟨b, 0, none⟩) ss.length ss.length), .bool true]) ∧ w.heap.size ≤ b ∧ b < w'.heap.size ∧ (∀ i, i < ss.length → w'.cell? ⟨b, 0 + i, none⟩ = some (.iface 9 (.string (ss.getD i ByteArray.empty)))) ∧ Below w.heap.size w w'

theorem filled_texts {w : World} {b : Nat} {ss : List ByteArray} (h : Filled w b ss.length ss.length (ss.map textJ)) : ∀ i, i < ss.length → w.cell? ⟨b, 0 + i, none⟩ = some (.iface 9 (.string (ss.getD i ByteArray.empty))) := by
  obtain ⟨arr, h1, h2, h3⟩ := h
  intro i hi
  obtain ⟨v, hv, hg⟩ := h3 i hi
  have e : (ss.map textJ).getD i dfl = textJ (ss.getD i ByteArray.empty) := by
    rw [List.getD_eq_getElem?_getD, List.getElem?_map, List.getElem?_eq_getElem hi, List.getD_eq_getElem?_getD, List.getElem?_eq_getElem hi]; rfl
  rw [e] at hg
  rw [(cell_of_block h1 _).1, Nat.zero_add, hv]
  unfold textJ at hg
  cases hg with
  | text s hs => rfl

set_option maxRecDepth 100000 in
set_option maxHeartbeats 4000000 in
theorem toGo_texts (ss : List ByteArray) (hs : ∀ s ∈ ss, s.size ≤ 2000) (hl : ss.length ≤ 800) (a : Option Addr) (c : Nat) (L : Nat → VC) (B : Nat) (w : World) (hB : B ≤ w.heap.size) (r1 : Row6 w B a ss.length L) (h1 : ∀ i, i < ss.length → L i = textC (ss.getD i ByteArray.empty)) :
    Calls Tryz.prog 27 #[.agg #[.int .i64 5, .int .i64 0, .string ⟨#[]⟩, .slice a ss.length c, .slice none 0 0, .slice none 0 0]] w (RTx w ss) := by
  obtain ⟨bx, hbx⟩ : ∃ v, v = w.alloc (.cells #[.int .i64 5, .int .i64 0, .string ⟨#[]⟩, .slice a ss.length c, .slice none 0 0, .slice none 0 0] 26) := ⟨_, rfl⟩
  have hb0 : Below w.heap.size w bx := by rw [hbx]; exact (Below.refl _ _).alloc (Nat.le_refl _) _
  have hz0 : bx.heap.size = w.heap.size + 1 := by rw [hbx]; simp
  have hlm : (ss.map textJ).length = ss.length := by simp
  have hw := listToGo_800 (ss.map textJ) a c L B bx (by omega) (by omega) (by rw [hlm]; exact r1.keep (hb0.mono hB) (Nat.le_refl _)) (fun k wr hk hb => by
    have hk2 : k < ss.length := by omega
    have e : (ss.map textJ).getD k dfl = textJ (ss.getD k ByteArray.empty) := by
      rw [List.getD_eq_getElem?_getD, List.getElem?_map, List.getElem?_eq_getElem hk2, List.getD_eq_getElem?_getD, List.getElem?_eq_getElem hk2]; rfl
    have hsz : (ss.getD k ByteArray.empty).size ≤ 2000 := by
      rw [List.getD_eq_getElem?_getD, List.getElem?_eq_getElem hk2]; exact hs _ (List.getElem_mem hk2)
    rw [e, h1 k hk2]
    exact toGo_any _ _ (textC _) wr.heap.size wr (Nat.lt_succ_self _) (VRep.text wr wr.heap.size _ (by omega)) (Nat.le_refl _) (Right.text _ hsz))
  rw [hlm] at hw
  have HF : Hid (∀ w' b, Filled w' b ss.length ss.length (ss.map textJ) → w.heap.size ≤ b → b < w'.heap.size → Below w.heap.size w w' → RTx w ss (.returned (.tuple #[.iface 71 (.slice (some ⟨b, 0, none⟩) ss.length ss.length), .bool true])) w') := Lib.hid (fun w' b hf h1 h2 h3 => ⟨b, rfl, h1, h2, filled_texts hf, h3⟩)
  obtain ⟨POST, hP⟩ : ∃ P, RTx w ss = P := ⟨_, rfl⟩
  rw [hP] at HF ⊢
  have HBX := Lib.hid hbx
  have HZ := Lib.hid (And.intro hb0 hz0)
  clear hP h1 r1 hs hbx hb0 hz0
  have HLM := Lib.hid hlm
  clear hlm
  go_enter Tryz.func27, Tryz.ntmps27
  go_wp2_with fail
  rw [HBX.out] at hw
  refine hw.mono ?_
  rintro e w7 ⟨n7, hn7, rfl, hf7, hb7⟩
  rw [← HBX.out] at hf7 hb7
  have h7 : bx.heap.size < w7.heap.size := by
    obtain ⟨arr, ha, _⟩ := hf7
    exact (Array.getElem?_eq_some_iff.1 ha).1
  have e7 : n7 = ss.length := hn7.trans HLM.out
  subst e7
  have hz := HZ.out.2
  have HX := Lib.hid (HF.out w7 bx.heap.size hf7 (by omega) h7 (HZ.out.1.trans (hb7.mono HZ.out.1.size)))
  rw [hz] at HX
  clear hn7 hf7 hb7 hw h7 hz
  go_wp2_with fail
  exact HX.out
end Go.Proofs.YtaockngppbeanaaGreatDoor
