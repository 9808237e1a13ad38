/- The reference looks at a value: spec.looker.value. It finds nothing bad only in a right value. Condition: the value lies in memory below the looker, utf8's tables as they were laid. -/
import Derived.Test.YtaockngppbeanaaGreatDoorLook
import Derived.Deep.CutBlock
namespace Go.Proofs.YtaockngppbeanaaGreatDoor
open Go.RowKit

theorem cells6 {w : World} {b : Nat} {v0 v1 v2 v3 v4 v5 : Value} {t : TypeId} (h : w.heap[b]? = some (.cells #[v0, v1, v2, v3, v4, v5] t)) :
    w.cell? ⟨b, 0, none⟩ = some v0 ∧ w.cell? ⟨b, 1, none⟩ = some v1 ∧ w.cell? ⟨b, 2, none⟩ = some v2 ∧ w.cell? ⟨b, 3, none⟩ = some v3 ∧ w.cell? ⟨b, 4, none⟩ = some v4 ∧ w.cell? ⟨b, 5, none⟩ = some v5 := by
  refine ⟨?_, ?_, ?_, ?_, ?_, ?_⟩ <;> simp [World.cell?, h]
theorem heap_alloc_new (w : World) (o : Obj) : (w.alloc o).heap[w.heap.size]? = some o := by
  show (w.heap.push _)[w.heap.size]? = _
  simp
theorem box6 {L : Nat} {w wr : World} {x : VC} (hm : Mods L (boxV w x) wr) (hL : L < w.heap.size) :
    wr.cell? ⟨w.heap.size, 0, none⟩ = some (.int .i64 x.kind) ∧ wr.cell? ⟨w.heap.size, 1, none⟩ = some (.int .i64 x.half) ∧ wr.cell? ⟨w.heap.size, 2, none⟩ = some (.string x.text) ∧
    wr.cell? ⟨w.heap.size, 3, none⟩ = some (.slice x.la x.ln x.lc) ∧ wr.cell? ⟨w.heap.size, 4, none⟩ = some (.slice x.ka x.kn x.kc) ∧ wr.cell? ⟨w.heap.size, 5, none⟩ = some (.slice x.va x.vn x.vc) :=
  cells6 ((hm.block w.heap.size (by simp) (by omega)).trans (heap_alloc_new _ _))

theorem size_of_nil {s : ByteArray} (h : s.toList = []) : s.size = 0 := by
  rw [ByteArray.toList_eq] at h
  have : s.data.toList.length = 0 := by rw [h]; rfl
  show s.data.size = 0
  rw [Array.length_toList] at this
  exact this

def C2 (x : VC) : Prop := 0 ≤ x.kind ∧ x.kind ≤ 6 ∧ (x.kind = 3 ∨ x.half = 0) ∧ (x.kind = 4 ∨ x.text.size = 0) ∧ (x.kind = 5 ∨ x.ln = 0) ∧ (x.kind = 6 ∨ x.kn = 0) ∧ x.kn = x.vn
theorem tmod2 {h : Int} (e : h.tmod 2 = 0) : h % 2 = 0 := by
  rcases Int.le_total 0 h with h0 | h0
  · rwa [Int.tmod_eq_emod_of_nonneg h0] at e
  · obtain ⟨g, rfl⟩ : ∃ g, h = -g := ⟨-h, by omega⟩
    rw [Int.neg_tmod, Int.tmod_eq_emod_of_nonneg (by omega)] at e
    omega
def C3 (x : VC) : Prop := -18014398509481984 ≤ x.half ∧ x.half ≤ 18014398509481984 ∧ (x.half % 2 = 0 ∨ (-9007199254740992 < x.half ∧ x.half < 9007199254740992))

def RV (w : World) (L : Nat) (p : Int) (bad : Bool) (j : JV) (e : Ending) (w' : World) : Prop :=
  ∃ p' b' bad', e = .returned (.tuple #[]) ∧ LkAt w' L p' b' bad' ∧ Mods L w w' ∧ Hid (LkOK p' b' bad' ∧ (bad' = false → bad = false ∧ p < p' ∧ Right j))
theorem nil_of_len {α : Type} {l : List α} (h : 0 = l.length) : l = [] := List.length_eq_zero_iff.1 h.symm
theorem LkOK.isBad (p b : Int) : LkOK p b true := fun e => absurd e (by decide)
/-- What holds between two pieces. -/
def Mid (w : World) (L : Nat) (x : VC) (p : Int) (bad : Bool) (F : Int → Prop) (wr : World) : Prop :=
  ∃ p' b' bad', LkAt wr L p' b' bad' ∧ Mods L (boxV w x) wr ∧ LkOK p' b' bad' ∧ (bad' = false → bad = false ∧ p < p' ∧ F p')

set_option maxRecDepth 100000 in
set_option maxHeartbeats 20000000 in
theorem value_any (n : Nat) : ∀ (j : JV) (x : VC) (L : Nat) (w : World) (p b : Int) (bad : Bool) (deep : Int), SizeOf.sizeOf j < n → VRep w L x j → LkAt w L p b bad → LkOK p b bad → Tabs w → 2 ≤ L →
    Calls Tryz.prog 31 #[.pointer (some ⟨L, 0, none⟩), x.val, .int .i64 deep] w (RV w L p bad j) := by
  induction n with
  | zero => intro j x L w p b bad deep h; omega
  | succ n ih =>
    intro j x L w p b bad deep hn hrep hlk hok hT hL
    obtain ⟨_, ls, ks, vs, L1, V1, hn1, hn2, hn3, hb1, hb2, hb3, hc1, hc2, hc3, hc4, hc5, hc6, ht, hk, hh, hs, r1, r2, r3, h1, h3⟩ := hrep
    have hLs := hlk.lt
    have hm1 : Mods L w (boxV w x) := Mods.of_below ((Below.refl _ _).alloc (Nat.le_refl _) _)
    have hlk1 : LkAt (boxV w x) L p b bad := hlk.keep ((Below.refl _ _).alloc (Nat.le_refl _) _)
    have hT1 : Tabs (boxV w x) := hT.keep hm1 hL
    have hcall1 : ∀ (k : Nat) (wr : World) (p b : Int) (bd : Bool) (dp : Int), k < x.ln → Mods L (boxV w x) wr → LkAt wr L p b bd → LkOK p b bd → Calls Tryz.prog 31 #[.pointer (some ⟨L, 0, none⟩), (L1 k).val, .int .i64 dp] wr (RV wr L p bd (ls.getD k (JV.mk 0 0 ByteArray.empty [] [] []))) := fun k wr p b bd dp hk hm hl ho => by
      have e : ls.getD k (JV.mk 0 0 ByteArray.empty [] [] []) = ls[k]'(by omega) := by rw [List.getD_eq_getElem?_getD, List.getElem?_eq_getElem (by omega)]; rfl
      rw [e]
      exact ih (ls[k]'(by omega)) (L1 k) L wr p b bd dp (by have := JV.lt_list (k := x.kind) (h := x.half) (t := x.text) (ls := ls) (ks := ks) (vs := vs) (i := k) (by omega); omega) ((h1 k (by omega)).keep ((hm1.trans hm).below (by omega)) (Nat.le_refl _)) hl ho (hT.keep (hm1.trans hm) hL) hL
    have hcall3 : ∀ (k : Nat) (wr : World) (p b : Int) (bd : Bool) (dp : Int), k < x.vn → Mods L (boxV w x) wr → LkAt wr L p b bd → LkOK p b bd → Calls Tryz.prog 31 #[.pointer (some ⟨L, 0, none⟩), (V1 k).val, .int .i64 dp] wr (RV wr L p bd (vs.getD k (JV.mk 0 0 ByteArray.empty [] [] []))) := fun k wr p b bd dp hk hm hl ho => by
      have e : vs.getD k (JV.mk 0 0 ByteArray.empty [] [] []) = vs[k]'(by omega) := by rw [List.getD_eq_getElem?_getD, List.getElem?_eq_getElem (by omega)]; rfl
      rw [e]
      exact ih (vs[k]'(by omega)) (V1 k) L wr p b bd dp (by have := JV.lt_vals (k := x.kind) (h := x.half) (t := x.text) (ls := ls) (ks := ks) (vs := vs) (i := k) (by omega); omega) ((h3 k (by omega)).keep ((hm1.trans hm).below (by omega)) (Nat.le_refl _)) hl ho (hT.keep (hm1.trans hm) hL) hL
    have H1 := Lib.hid hn1; have H2 := Lib.hid hn2; have H3 := Lib.hid hn3
    clear ih h1 h3 hn1 hn2 hn3 hn
    have Hok := Lib.hid hok; clear hok
    go_enter Tryz.func31, Tryz.ntmps31
    go_upto_region 2 with (go_at_call 63; refine (part_any L p b bad _ _ hlk1 Hok.out).mono ?_; rintro e w3 ⟨p2, bad2, rfl, hl2, hm2, hf2⟩)
    · -- part said no
      go_end0
      have hbt : bad2 = true := by assumption
      exact ⟨p2, b, bad2, rfl, hl2, hm1.trans hm2, Lib.hid ⟨hf2.out.1, fun e => absurd e (by simp [hbt])⟩⟩
    · obtain ⟨d0, d1, d2, d3, d4, d5⟩ := box6 hm2 hLs
      go_cut [] (fun wx => Mid w L x p bad (fun _ => C2 x) wx)
      case first =>
        go_wp2_with (go_at_call 64; refine (want_any L p2 b bad2 _ _ hl2).mono ?_; rintro e w4 ⟨rfl, hl4, hm4⟩)
        all_goals (go_meet; refine ⟨p2, b, _, hl4, hm2.trans hm4, fun e => ?_, fun e => ?_⟩)
        all_goals (have e1 : bad2 = false := by cases bad2 <;> simp at e ⊢)
        all_goals first | exact hf2.out.1 e1 | skip
        all_goals rw [e1] at e
        all_goals refine ⟨(hf2.out.2 e1).1, by have := (hf2.out.2 e1).2; omega, ?_⟩
        all_goals first | (simp at e; done) | (simp at e; unfold C2; first | (have e5 := size_of_nil (s := x.text) (by assumption); omega) | omega)
      case rest =>
        obtain ⟨p3, b3, bad3, hl3, hm3, hok3, hf3⟩ := hcut
        have Hok3 := Lib.hid hok3; have Hf3 := Lib.hid hf3; have Hf2 := Lib.hid hf2
        clear hok3 hf3 hf2 d0 d1 d2 d3 d4 d5 hl2
        obtain ⟨d0, d1, d2, d3, d4, d5⟩ := box6 hm3 hLs
        go_upto_region 3 with fail
        go_cut [] (fun wx => Mid w L x p bad (fun _ => C2 x ∧ C3 x) wx)
        case first =>
          go_wp2_with (go_at_call 64; refine (want_any L p3 b3 bad3 _ _ hl3).mono ?_; rintro e w4 ⟨rfl, hl4, hm4⟩)
          all_goals (go_meet; refine ⟨p3, b3, _, hl4, hm3.trans hm4, fun e => ?_, fun e => ?_⟩)
          all_goals (have e1 : bad3 = false := by cases bad3 <;> simp at e ⊢)
          all_goals first | exact Hok3.out e1 | skip
          all_goals rw [e1] at e
          all_goals refine ⟨(Hf3.out e1).1, (Hf3.out e1).2.1, (Hf3.out e1).2.2, ?_⟩
          all_goals first | (simp at e; done) | (simp at e; unfold C3; first | (have e5 := tmod2 (h := x.half) (by assumption); omega) | omega)
        case rest =>
          obtain ⟨p4, b4, bad4, hl4, hm4, hok4, hf4⟩ := hcut
          have Hok4 := Lib.hid hok4; have Hf4 := Lib.hid hf4
          clear hok4 hf4 d0 d1 d2 d3 d4 d5 hl3 Hok3 Hf3 Hf2
          obtain ⟨d0, d1, d2, d3, d4, d5⟩ := box6 hm4 hLs
          have hT4 := hT1.keep hm4 hL
          go_upto_region 5 with (go_at_call 65; refine (str_any L p4 b4 bad4 x.text _ hl4 Hok4.out ht hT4 hL).mono ?_; rintro e w5 ⟨b5, bad5, rfl, hl5, hm5, hf5⟩)
          have hm5' := hm4.trans hm5
          have Hok5 := Lib.hid hf5.out.1; have Hf5 : Hid (bad5 = false → bad = false ∧ p < p4 ∧ C2 x ∧ C3 x ∧ x.text.size ≤ 2000) := fun e => by
            obtain ⟨a, a'⟩ := hf5.out.2 e
            obtain ⟨b, c, d, f⟩ := Hf4.out a
            exact ⟨b, c, d, f, a'⟩
          clear hf5 Hf4 Hok4 hl4 hm4 hm5 d0 d1 d2 d3 d4 d5 hT4
          obtain ⟨d0, d1, d2, d3, d4, d5⟩ := box6 hm5' hLs
          clear d0 d1 d2 d3 d4 d5
          go_upto_block 0 with fail
          go_cut [6] (fun _ wx => Mid w L x p bad (fun _ => C2 x ∧ C3 x ∧ x.text.size ≤ 2000 ∧ x.ln ≤ 400 ∧ ∀ q, q < x.ln → Right (ls.getD q (JV.mk 0 0 ByteArray.empty [] [] []))) wx)
          case first =>
            go_wp2_with fail
            go_loopw [6] (fun i wr => ∃ k : Nat, k ≤ x.ln ∧ i = .int .i64 k ∧ Mid w L x p bad (fun p' => C2 x ∧ C3 x ∧ x.text.size ≤ 2000 ∧ p + k < p' ∧ ∀ q, q < k → Right (ls.getD q (JV.mk 0 0 ByteArray.empty [] [] []))) wr) (fun i _ => x.ln - (intOf i).toNat)
            case atStart => exact ⟨0, Nat.zero_le _, rfl, p4, b5, bad5, hl5, hm5', Hok5.out, fun e => by
              obtain ⟨a, b, c, d, f⟩ := Hf5.out e
              exact ⟨a, b, c, d, f, by omega, fun q hq => by omega⟩⟩
            case round =>
              obtain ⟨k, hkl, rfl, p6, b6, bad6, hl6, hm6, hok6, hf6⟩ := hrel
              have Hok6 := Lib.hid hok6; have Hf6 := Lib.hid hf6
              clear hok6 hf6
              obtain ⟨d0, d1, d2, d3, d4, d5⟩ := box6 hm6 hLs
              obtain ⟨x0, x1, x2, y0, y1, y2⟩ := hl6.c
              by_cases hlt : k < x.ln
              · cases bad6
                · have Hf6' := Lib.hid (Hf6.out rfl); clear Hf6
                  rcases r1 with r1 | ⟨bb, off, ha, hlb, r1⟩
                  · omega
                  obtain ⟨c0, c1, c2, c3, c4, c5⟩ := ((r1 k hlt).keep (w' := wr) ((hm1.trans hm6).below (by omega)) (by omega))
                  have hcl := hcall1 k wr p6 b6 false
                  go_wp2_with (go_at_call 31; refine (hcl _ hlt hm6 hl6 Hok6.out).mono ?_; rintro e w7 ⟨p7, b7, bad7, rfl, hl7, hm7, hf7⟩)
                  have Hfin : Hid (Mid w L x p bad (fun p' => C2 x ∧ C3 x ∧ x.text.size ≤ 2000 ∧ p + (k + 1 : Nat) < p' ∧ ∀ q, q < k + 1 → Right (ls.getD q (JV.mk 0 0 ByteArray.empty [] [] []))) w7) := ⟨p7, b7, bad7, hl7, hm6.trans hm7, hf7.out.1, fun e => by
                    obtain ⟨_, a2, a3⟩ := hf7.out.2 e
                    obtain ⟨g1, g2, g3, g4, g5, g6, g7⟩ := Hf6'.out
                    exact ⟨g1, by omega, g3, g4, g5, by omega, fun q hq => by
                      by_cases hqk : q = k
                      · subst hqk; exact a3
                      · exact g7 q (by omega)⟩⟩
                  go_roundw
                  case rel => first | exact ⟨k + 1, by omega, by go_num, Hfin.out⟩ | ((repeat apply Exists.intro); exact ⟨⟨k + 1, by omega, by go_num, Hfin.out⟩, by first | rfl | (rw [ha]; rfl)⟩)
                  case measure => simp [intOf]; omega
                · go_wp2_with fail
                  go_meet
                  exact ⟨p6, b6, true, hl6, hm6, LkOK.isBad _ _, fun e => absurd e (by decide)⟩
              · go_wp2_with fail
                go_meet
                exact ⟨p6, b6, bad6, hl6, hm6, Hok6.out, fun e => by
                  obtain ⟨g1, g2, g3, g4, g5, g6, g7⟩ := Hf6.out e
                  have := Hok6.out e
                  have := Hok.out g1
                  exact ⟨g1, g2, g3, g4, g5, by omega, fun q hq => g7 q (by omega)⟩⟩
          case rest =>
            clear hl5 hm5' Hok5 Hf5
            obtain ⟨p6, b6, bad6, hl6, hm6, hok6, hf6⟩ := hcut
            have Hok6 := Lib.hid hok6; have Hf6 := Lib.hid hf6
            clear hok6 hf6
            have Hfin : Hid (∀ wx, Mid w L x p bad (fun p' => C2 x ∧ C3 x ∧ x.text.size ≤ 2000 ∧ x.ln ≤ 400 ∧ (∀ q, q < x.ln → Right (ls.getD q (JV.mk 0 0 ByteArray.empty [] [] []))) ∧
               p + x.kn < p' ∧ (∀ q, q < x.kn → Right (vs.getD q (JV.mk 0 0 ByteArray.empty [] [] [])) ∧ (ks.getD q ByteArray.empty).size ≤ 2000 ∧ (0 < q → lessB (ks.getD (q - 1) ByteArray.empty) (ks.getD q ByteArray.empty)))) wx →
               RV w L p bad (JV.mk x.kind x.half x.text ls ks vs) (.returned (.tuple #[])) wx) := fun wx hcut => by
              obtain ⟨p7, b7, bad7, hl7, hm7, hok7, hf7⟩ := hcut
              exact ⟨p7, b7, bad7, rfl, hl7, hm1.trans hm7, Lib.hid ⟨hok7, fun e => by
                obtain ⟨g1, g2, ⟨c1, c2, c3, c4, c5, c6, c7⟩, ⟨c8, c9, c10⟩, g5, g6, g7, g8, g9⟩ := hf7 e
                have e4 := hok7 e
                have e5 := Hok.out g1
                have e1 := H1.out; have e2 := H2.out; have e3 := H3.out
                exact ⟨g1, g2, .mk _ _ _ _ _ _ c1 c2 c3 c4 (c5.imp id (fun h => nil_of_len (by omega))) (c6.imp id (fun h => nil_of_len (by omega))) (by omega) c8 c9 c10 g5 (by omega) (by omega)
                  (fun s hs => by
                    obtain ⟨i, hi, rfl⟩ := List.mem_iff_getElem.1 hs
                    have := (g9 i (by omega)).2.1
                    rwa [List.getD_eq_getElem?_getD, List.getElem?_eq_getElem hi] at this)
                  (fun i hi => by
                    have := (g9 (i + 1) (by omega)).2.2 (by omega)
                    simpa using this)
                  (fun y hy => by
                    obtain ⟨i, hi, rfl⟩ := List.mem_iff_getElem.1 hy
                    have := g7 i (by omega)
                    rwa [List.getD_eq_getElem?_getD, List.getElem?_eq_getElem hi] at this)
                  (fun y hy => by
                    obtain ⟨i, hi, rfl⟩ := List.mem_iff_getElem.1 hy
                    have := (g9 i (by omega)).1
                    rwa [List.getD_eq_getElem?_getD, List.getElem?_eq_getElem hi] at this)⟩⟩⟩
            go_wp2_with fail
            go_loopw [7] (fun i wr => ∃ k : Nat, k ≤ x.kn ∧ i = .int .i64 k ∧ Mid w L x p bad (fun p' => C2 x ∧ C3 x ∧ x.text.size ≤ 2000 ∧ x.ln ≤ 400 ∧ (∀ q, q < x.ln → Right (ls.getD q (JV.mk 0 0 ByteArray.empty [] [] []))) ∧
               p + k < p' ∧ (∀ q, q < k → Right (vs.getD q (JV.mk 0 0 ByteArray.empty [] [] [])) ∧ (ks.getD q ByteArray.empty).size ≤ 2000 ∧ (0 < q → lessB (ks.getD (q - 1) ByteArray.empty) (ks.getD q ByteArray.empty)))) wr) (fun i _ => x.kn - (intOf i).toNat)
            case atStart => exact ⟨0, Nat.zero_le _, rfl, p6, b6, bad6, hl6, hm6, Hok6.out, fun e => by
              obtain ⟨a1, a2, a3, a4, a5, a6, a7⟩ := Hf6.out e
              exact ⟨a1, a2, a3, a4, a5, a6, a7, by omega, fun q hq => by omega⟩⟩
            case round =>
              clear hl6 hm6 Hok6 Hf6
              obtain ⟨k, hkl, rfl, p6, b6, bad6, hl6, hm6, hok6, hf6⟩ := hrel
              have Hok6 := Lib.hid hok6; have Hf6 := Lib.hid hf6
              clear hok6 hf6
              obtain ⟨d0, d1, d2, d3, d4, d5⟩ := box6 hm6 hLs
              obtain ⟨x0, x1, x2, y0, y1, y2⟩ := hl6.c
              by_cases hlt : k < x.kn
              · cases bad6
                · have Hf6' := Lib.hid (Hf6.out rfl); clear Hf6
                  rcases r2 with r2 | ⟨bb, off, ha, hlb, r2⟩
                  · omega
                  have c0 := (((hm1.trans hm6).below (by omega)).cell (p := ⟨bb, off + k, none⟩) (by show bb < _; omega)).trans (r2 k hlt)
                  have hsk := hs k (by have := H2.out; omega)
                  have hT6 := hT1.keep hm6 hL
                  go_upto_region 13 with (go_at_call 65; refine (str_any L p6 b6 false (ks.getD k ByteArray.empty) _ hl6 Hok6.out hsk hT6 hL).mono ?_; rintro e w7 ⟨b7, bad7, rfl, hl7, hm7, hf7⟩)
                  have hm7' := hm6.trans hm7
                  have hvn : x.kn = x.vn := Hf6'.out.2.2.1.2.2.2.2.2.2
                  have Hvn := Lib.hid hvn; clear hvn
                  have c1 := (((hm1.trans hm7').below (by omega)).cell (p := ⟨bb, off + k, none⟩) (by show bb < _; omega)).trans (r2 k hlt)
                  clear d0 d1 d2 d3 d4 d5 c0 hT6 x0 x1 x2 y0 y1 y2
                  obtain ⟨d0, d1, d2, d3, d4, d5⟩ := box6 hm7' hLs
                  obtain ⟨x0, x1, x2, y0, y1, y2⟩ := hl7.c
                  go_cut [147] (fun _ wx => ∃ bad8, LkAt wx L p6 b7 bad8 ∧ Mods L (boxV w x) wx ∧ (bad8 = false → bad7 = false ∧ (0 < k → lessB (ks.getD (k - 1) ByteArray.empty) (ks.getD k ByteArray.empty))))
                  case first =>
                    by_cases hk0 : k = 0
                    · subst hk0
                      refine wp_region_still_tail 17 (by kernel_rfl) (by kernel_rfl) ?_
                      simp only [List.take_succ_cons, List.take_zero, List.drop_succ_cons, List.drop_zero]
                      iterate 17 ((with_reducible refine wpStill_step (fun K hK => ?_)); go_simp; (with_reducible refine hK _ ?_); clear hK K)
                      (with_reducible refine wpStill_nil ?_)
                      change wpList _ _ _ _ _ w7.drew
                      have hl7d : LkAt w7.drew L p6 b7 bad7 := hl7
                      have hm7d : Mods L w7 w7.drew := ⟨rfl, rfl, rfl, Nat.le_refl _, fun _ _ _ => rfl⟩
                      generalize w7.drew = w7d at hl7d hm7d ⊢
                      clear x0 x1 x2 y0 y1 y2 d0 d1 d2 d3 d4 d5 c1
                      go_wp2_with (go_at_call 64; refine (want_any L p6 b7 bad7 _ _ hl7d).mono ?_; rintro e w8 ⟨rfl, hl8, hm8⟩)
                      go_meet
                      exact ⟨_, hl8, (hm7'.trans hm7d).trans hm8, fun e => ⟨by simpa using e, fun h => absurd h (by omega)⟩⟩
                    · have hk1 : ((k : Int) == 0) = false := by simp; omega
                      have hk2 : 1 ≤ k := by omega
                      have hw1 : IntKind.i64.wrap ((k : Int) - 1) = (k : Int) - 1 := IntWalk.i64_in _ (by omega)
                      have hw2 : (0 : Int) ≤ (k : Int) - 1 := by omega
                      have hw3 : ((k : Int) - 1).toNat = k - 1 := by omega
                      have hw4 : (k : Int) - 1 < (x.kn : Int) := by omega
                      have hw5 : (1 : Int) ≤ (k : Int) := by omega
                      have c2 := (((hm1.trans hm7').below (by omega)).cell (p := ⟨bb, off + (k - 1), none⟩) (by show bb < _; omega)).trans (r2 (k - 1) (by omega))
                      refine wp_region_still_tail 17 (by kernel_rfl) (by kernel_rfl) ?_
                      simp only [List.take_succ_cons, List.take_zero, List.drop_succ_cons, List.drop_zero]
                      iterate 17 ((with_reducible refine wpStill_step (fun K hK => ?_)); go_simp; (with_reducible refine hK _ ?_); clear hK K)
                      (with_reducible refine wpStill_nil ?_)
                      change wpList _ _ _ _ _ w7.drew
                      have hl7d : LkAt w7.drew L p6 b7 bad7 := hl7
                      have hm7d : Mods L w7 w7.drew := ⟨rfl, rfl, rfl, Nat.le_refl _, fun _ _ _ => rfl⟩
                      generalize w7.drew = w7d at hl7d hm7d ⊢
                      clear x0 x1 x2 y0 y1 y2 d0 d1 d2 d3 d4 d5 c1 c2 hw1 hw2 hw3 hw4 hw5
                      go_wp2_with (go_at_call 64; refine (want_any L p6 b7 bad7 _ _ hl7d).mono ?_; rintro e w8 ⟨rfl, hl8, hm8⟩)
                      go_meet
                      exact ⟨_, hl8, (hm7'.trans hm7d).trans hm8, fun e => by
                        simp only [Bool.or_eq_false_iff, Bool.not_eq_false'] at e
                        exact ⟨e.1, fun _ => e.2⟩⟩
                  case rest =>
                    clear hl7 hm7' d0 d1 d2 d3 d4 d5 c1 x0 x1 x2 y0 y1 y2
                    obtain ⟨bad8, hl8, hm8, hf8⟩ := hcut
                    have Hf8 := Lib.hid hf8; clear hf8
                    have Hok8 : Hid (LkOK p6 b7 bad8) := fun e => hf7.out.1 (Hf8.out e).1
                    obtain ⟨d0, d1, d2, d3, d4, d5⟩ := box6 hm8 hLs
                    rcases r3 with r3 | ⟨b3, off3, ha3, hlb3, r3⟩
                    · have := Hvn.out; omega
                    have hlt3 : k < x.vn := by have := Hvn.out; omega
                    have hi3 : (k : Int) < (x.vn : Int) := by omega
                    obtain ⟨c0, c1, c2, c3, c4, c5⟩ := ((r3 k hlt3).keep (w' := wc) ((hm1.trans hm8).below (by omega)) (by omega))
                    have hcl := hcall3 k wc p6 b7 bad8
                    have Hf7 := Lib.hid hf7.out; clear hf7
                    go_wp2_with (go_at_call 31; refine (hcl _ hlt3 hm8 hl8 Hok8.out).mono ?_; rintro e w9 ⟨p9, b9, bad9, rfl, hl9, hm9, hf9⟩)
                    have Hnew : Hid (Mid w L x p bad (fun p' => C2 x ∧ C3 x ∧ x.text.size ≤ 2000 ∧ x.ln ≤ 400 ∧ (∀ q, q < x.ln → Right (ls.getD q (JV.mk 0 0 ByteArray.empty [] [] []))) ∧
                        p + (k + 1 : Nat) < p' ∧ (∀ q, q < k + 1 → Right (vs.getD q (JV.mk 0 0 ByteArray.empty [] [] [])) ∧ (ks.getD q ByteArray.empty).size ≤ 2000 ∧ (0 < q → lessB (ks.getD (q - 1) ByteArray.empty) (ks.getD q ByteArray.empty)))) w9) :=
                      ⟨p9, b9, bad9, hl9, hm8.trans hm9, hf9.out.1, fun e => by
                        obtain ⟨a1, a2, a3⟩ := hf9.out.2 e
                        obtain ⟨a4, a5⟩ := Hf8.out a1
                        obtain ⟨_, a6⟩ := Hf7.out.2 a4
                        obtain ⟨g1, g2, g3, g4, g5, g6, g7, g8, g9⟩ := Hf6'.out
                        exact ⟨g1, by omega, g3, g4, g5, g6, g7, by omega, fun q hq => by
                          by_cases hqk : q = k
                          · subst hqk; exact ⟨a3, a6, a5⟩
                          · exact g9 q (by omega)⟩⟩
                    go_roundw
                    case rel => first | exact ⟨k + 1, by omega, by go_num, Hnew.out⟩ | ((repeat apply Exists.intro); exact ⟨⟨k + 1, by omega, by go_num, Hnew.out⟩, by first | rfl | (rw [ha3]; rfl) | (rw [ha, ha3]; rfl) | (rw [ha]; rfl)⟩)
                    case measure => simp [intOf]; omega
                · go_wp2_with fail
                  go_end0
                  exact Hfin.out _ ⟨p6, b6, true, hl6, hm6, LkOK.isBad _ _, fun e => absurd e (by decide)⟩
              · go_wp2_with fail
                go_end0
                obtain rfl : k = x.kn := by omega
                exact Hfin.out _ ⟨p6, b6, bad6, hl6, hm6, Hok6.out, Hf6.out⟩
end Go.Proofs.YtaockngppbeanaaGreatDoor
