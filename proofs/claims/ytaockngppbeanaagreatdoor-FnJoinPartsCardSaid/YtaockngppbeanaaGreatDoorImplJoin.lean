/- impl.Join of a list of texts and a text. Condition: texts of 2000 bytes at most, 800 of them at most, at least one. -/
import Derived.Test.YtaockngppbeanaaGreatDoorJoinT
namespace Go.Proofs.YtaockngppbeanaaGreatDoor
open Go.RowKit

theorem getD_le {ss : List ByteArray} (hs : ∀ s ∈ ss, s.size ≤ 2000) (i : Nat) : (ss.getD i ByteArray.empty).size ≤ 2000 := by
  rw [List.getD_eq_getElem?_getD]
  rcases Nat.lt_or_ge i ss.length with h | h
  · rw [List.getElem?_eq_getElem h]; exact hs _ (List.getElem_mem h)
  · rw [List.getElem?_eq_none h]; decide
/-- The texts, by number. -/
def fT (ss : List ByteArray) (hs : ∀ s ∈ ss, s.size ≤ 2000) (i : Nat) : T2 := ⟨ss.getD i ByteArray.empty, getD_le hs i⟩
/-- The texts joined. -/
def joinB (sep : T2) (f : Nat → T2) (n : Nat) : ByteArray := ⟨(cat (js sep f n)).toArray⟩
abbrev listV (a : Option Addr) (n c : Nat) : Value := .agg #[.int .i64 5, .int .i64 0, .string ⟨#[]⟩, .slice a n c, .slice none 0 0, .slice none 0 0]
abbrev textV (s : ByteArray) : Value := .agg #[.int .i64 4, .int .i64 0, .string s, .slice none 0 0, .slice none 0 0, .slice none 0 0]
def boxJ (w : World) (a : Option Addr) (n c : Nat) (s : ByteArray) : World :=
  ((w.alloc (.cells #[.int .i64 5, .int .i64 0, .string ⟨#[]⟩, .slice a n c, .slice none 0 0, .slice none 0 0] 26)).alloc (.cells #[.int .i64 4, .int .i64 0, .string s, .slice none 0 0, .slice none 0 0, .slice none 0 0] 26)).alloc (.cells #[.int .i64 0, .int .i64 0, .string ⟨#[]⟩, .slice none 0 0, .slice none 0 0, .slice none 0 0, .int .i64 0] 34)

set_option maxRecDepth 100000 in
set_option maxHeartbeats 4000000 in
theorem implJoin_any (ss : List ByteArray) (hs : ∀ s ∈ ss, s.size ≤ 2000) (hl : ss.length ≤ 800) (hpos : 0 < ss.length) (sep : T2) (a : Option Addr) (c : Nat) (L : Nat → VC) (B : Nat) (w : World) (hB : B ≤ w.heap.size) (r1 : Row6 w B a ss.length L) (h1 : ∀ i, i < ss.length → L i = textC (ss.getD i ByteArray.empty)) :
    Calls Tryz.prog 12 #[listV a ss.length c, textV sep.1] w (RRT w (joinB sep (fT ss hs) ss.length)) := by
  obtain ⟨bx, hbx⟩ : ∃ v, v = boxJ w a ss.length c sep.1 := ⟨_, rfl⟩
  have b3 : Below w.heap.size w bx := by rw [hbx]; exact (((Below.refl _ _).alloc (Nat.le_refl _) _).alloc (by simp) _).alloc (by simp; omega) _
  have s3 : bx.heap.size = w.heap.size + 3 := by rw [hbx]; simp [boxJ]
  have m1 : bx.heap[w.heap.size + 1]? = some (.cells #[.int .i64 4, .int .i64 0, .string sep.1, .slice none 0 0, .slice none 0 0, .slice none 0 0] 26) := by
    rw [hbx]
    refine (Below.heap_alloc _ _ _ (by simp)).trans ?_
    have := heap_alloc_new (w.alloc (.cells #[.int .i64 5, .int .i64 0, .string ⟨#[]⟩, .slice a ss.length c, .slice none 0 0, .slice none 0 0] 26)) (.cells #[.int .i64 4, .int .i64 0, .string sep.1, .slice none 0 0, .slice none 0 0, .slice none 0 0] 26)
    simpa using this
  have m2 : bx.heap[w.heap.size + 2]? = some (.cells #[.int .i64 0, .int .i64 0, .string ⟨#[]⟩, .slice none 0 0, .slice none 0 0, .slice none 0 0, .int .i64 0] 34) := by
    rw [hbx]
    have := heap_alloc_new ((w.alloc (.cells #[.int .i64 5, .int .i64 0, .string ⟨#[]⟩, .slice a ss.length c, .slice none 0 0, .slice none 0 0] 26)).alloc (.cells #[.int .i64 4, .int .i64 0, .string sep.1, .slice none 0 0, .slice none 0 0, .slice none 0 0] 26)) (.cells #[.int .i64 0, .int .i64 0, .string ⟨#[]⟩, .slice none 0 0, .slice none 0 0, .slice none 0 0, .int .i64 0] 34)
    simpa [boxJ] using this
  have hc1 := toGo_texts ss hs hl a c L B bx (Nat.le_trans hB b3.size) (r1.keep (b3.mono hB) (Nat.le_refl _)) h1
  have hc2 := fun wr => toGo_any _ (textJ sep.1) (textC sep.1) (World.heap wr).size wr (Nat.lt_succ_self _) (VRep.text wr _ _ (by have := sep.2; omega)) (Nat.le_refl _) (Right.text _ sep.2)
  have hfT : ∀ i, i < ss.length → tv (fT ss hs i) = .iface 9 (.string (ss.getD i ByteArray.empty)) := fun i _ => rfl
  have HT := Lib.hid hfT
  generalize fT ss hs = f at *
  obtain ⟨n, hn⟩ : ∃ n, n = ss.length := ⟨_, rfl⟩
  rw [← hn] at hl hpos hbx hc1 ⊢
  have HNN := Lib.hid hn
  have HBX := Lib.hid hbx
  have HM := Lib.hid (And.intro s3 (And.intro b3 (And.intro m1 m2)))
  obtain ⟨POST, hP⟩ : ∃ P, RRT w (joinB sep f n) = P := ⟨_, rfl⟩
  rw [hP]
  have HP := Lib.hid hP
  clear hP hbx b3 s3 m1 m2 r1 h1 hs hn hfT
  go_enter Tryz.func12, Tryz.ntmps12
  go_wp2_with fail
  rw [HBX.out] at hc1
  refine hc1.mono ?_
  rintro e w1 ⟨b, rfl, hlo, hhi, hrow, hb1⟩
  change Below (boxJ _ _ _ _ _).heap.size (boxJ _ _ _ _ _) w1 at hb1
  rw [← HBX.out] at hb1
  rw [← HNN.out] at hrow ⊢
  obtain ⟨s3, b3, m1, m2⟩ := HM.out
  have bw1 := b3.trans (hb1.mono b3.size)
  have n1 := (hb1.block _ (by omega)).trans m1
  have n2 := Lib.hid ((hb1.block _ (by omega)).trans m2)
  have hz1 : w.heap.size + 3 ≤ w1.heap.size := by have := hb1.size; omega
  obtain ⟨d0, d1, d2, d3, d4, d5⟩ := cells6 n1
  have HROW := Lib.hid hrow
  have HB1 := Lib.hid bw1
  have hcall2 := hc2 w1
  clear s3 b3 m1 m2 hc1 hlo hrow hb1 bw1 n1 HM hc2
  go_wp2_with fail
  refine hcall2.mono ?_
  rintro e w2 ⟨v, rfl, hg, hb2⟩
  have ev : v = tv sep := by
    unfold textJ at hg
    cases hg
    rfl
  subst ev
  have bw2 := HB1.out.trans (hb2.mono HB1.out.size)
  have n3 := Lib.hid ((hb2.block _ (by omega)).trans n2.out)
  have hz2 : w.heap.size + 3 ≤ w2.heap.size := by have := hb2.size; omega
  have hzz := zzJoin_texts sep f n b n hl hpos w2 (by have := hb2.size; omega) (fun j hj => ((hb2.cell (p := ⟨b, 0 + j, none⟩) hhi).trans (HROW.out j hj)).trans (congrArg some (HT.out j (by rw [← HNN.out]; exact hj)).symm))
  have HB2 := Lib.hid bw2
  clear hg hb2 bw2 d0 d1 d2 d3 d4 d5 hcall2 hhi hz1
  go_wp2_with fail
  refine hzz.mono ?_
  rintro e w3 ⟨rfl, hb3⟩
  have hres := result_text (joinB sep f n) w3
  have bw3 := Lib.hid (HB2.out.trans (hb3.mono HB2.out.size))
  have n4 := Lib.hid ((hb3.block _ (by omega)).trans n3.out)
  have hz3 : w.heap.size + 3 ≤ w3.heap.size := by have := hb3.size; omega
  clear hb3 hzz
  obtain ⟨S, hS⟩ : ∃ S, S = joinB sep f n := ⟨_, rfl⟩
  have eS : (⟨(cat (js sep f n)).toArray⟩ : ByteArray) = S := by rw [hS]; rfl
  rw [eS]
  rw [← hS] at hres
  have HS := Lib.hid hS
  clear hS eS
  go_wp2_with fail
  refine hres.mono ?_
  rintro e w4 ⟨rfl, hb4⟩
  have n5 := (hb4.block _ (by omega)).trans n4.out
  have bw4 := bw3.out.trans (hb4.mono bw3.out.size)
  have hz4 : w.heap.size + 3 ≤ w4.heap.size := by have := hb4.size; omega
  clear hb4 hres
  have q0 := cell_of_block n5
  have q00 := q0 0
  have q01 := q0 1
  have q02 := q0 2
  have q03 := q0 3
  have q04 := q0 4
  have q05 := q0 5
  have q06 := q0 6
  simp only [List.getElem?_toArray, List.getElem?_cons_succ, List.getElem?_cons_zero] at q00 q01 q02 q03 q04 q05 q06
  clear q0
  unfold resT
  go_wp2_with fail
  have hs6 := set7 (.int .i64 4) (.int .i64 0) (.string S) (.slice none 0 0) (.slice none 0 0) (.slice none 0 0) (.int .i64 0) n5
  have hb6 := ((((((bw4.setCell (p := ⟨w.heap.size + 2, 0, none⟩) (by show w.heap.size ≤ w.heap.size + 2; omega) (.int .i64 4)).setCell (p := ⟨w.heap.size + 2, 1, none⟩) (by show w.heap.size ≤ w.heap.size + 2; omega) (.int .i64 0)).setCell (p := ⟨w.heap.size + 2, 2, none⟩) (by show w.heap.size ≤ w.heap.size + 2; omega) (.string S)).setCell (p := ⟨w.heap.size + 2, 3, none⟩) (by show w.heap.size ≤ w.heap.size + 2; omega) (.slice none 0 0)).setCell (p := ⟨w.heap.size + 2, 4, none⟩) (by show w.heap.size ≤ w.heap.size + 2; omega) (.slice none 0 0)).setCell (p := ⟨w.heap.size + 2, 5, none⟩) (by show w.heap.size ≤ w.heap.size + 2; omega) (.slice none 0 0)).setCell (p := ⟨w.heap.size + 2, 6, none⟩) (by show w.heap.size ≤ w.heap.size + 2; omega) (.int .i64 0)
  have ee : w.heap.size + 1 + 1 = w.heap.size + 2 := by omega
  rw [ee]
  generalize (((((((w4.setCell _ _).setCell _ _).setCell _ _).setCell _ _).setCell _ _).setCell _ _).setCell _ _) = w9 at hs6 hb6 ⊢
  rw [← HP.out]
  refine bodyPost_ret (v := resT S) ?_ rfl ⟨by rw [HS.out], hb6⟩
  exact results_cell_row rfl _ _ (w.heap.size + 2) 34 _ (0, 0) _ rfl hs6 Tryz.underlying34 rfl (by kernel_rfl)
end Go.Proofs.YtaockngppbeanaaGreatDoor
