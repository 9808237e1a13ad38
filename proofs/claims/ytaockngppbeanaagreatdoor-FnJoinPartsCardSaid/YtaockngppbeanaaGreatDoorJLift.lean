/- laws.FnJoinParts, lifted: every call on arguments that can be read returns true and leaves them as they were. Condition: the listed tables of the library lie as its text lays them. -/
import Derived.Test.YtaockngppbeanaaGreatDoorJAny
import Derived.Test.YtaockngppbeanaaGreatDoorRows
import Derived.Lib.LaidU8T
import Derived.PinnedBridge
import Derived.Lay
import Derived.ProofKit
import Derived.Stop.Joined
import Derived.LaidMore
namespace Go.Proofs.YtaockngppbeanaaGreatDoor
open Go Go.RowKit Go.Shelf Go.ChangeShapes Go.WideShapes Go.ChangeAt

theorem xU8 : U8Extra Tryz.prog Tryz.laysValid_ren := ⟨by kernel_rfl, by kernel_rfl, by kernel_rfl, by kernel_rfl, by kernel_rfl, by kernel_rfl, by kernel_rfl⟩
theorem accept_eq : Rows.laid_unicode_utf8_acceptRanges = Lib.acceptData := by kernel_rfl
theorem tabs_of4 {W : World} (h : laidMet Tryz.prog Rows.fnJoinPartsRow.laid W) : Lib.Utf8Tabs 0 1 W :=
  utf8Tabs_of_readsT (P := Tryz.prog) (ρ := Tryz.laysValid_ren) (U8Types.of196 Tryz.laysValid) xU8
    (Pinned.utf8First_eq ▸ Lib.laidMet.reads h (n := "unicode/utf8.first") (d := Go.Pinned.utf8First) (by unfold Rows.fnJoinPartsRow; simp [Rows.laid_unicode_utf8_first]))
    (accept_eq ▸ Lib.laidMet.reads h (n := "unicode/utf8.acceptRanges") (d := Rows.laid_unicode_utf8_acceptRanges) (by unfold Rows.fnJoinPartsRow; simp))
theorem tabs_size {W : World} (h : Lib.Utf8Tabs 0 1 W) : 2 ≤ W.heap.size := by
  have := (h.2 0 (by omega)).1
  by_cases hb : 1 < W.heap.size
  · omega
  · unfold World.cell? at this
    simp [Array.getElem?_eq_none (show W.heap.size ≤ 1 by omega)] at this

theorem laidOut_all : laidOutB Tryz.prog = true := by kernel_rfl
theorem own : ownKnob Tryz.prog.godebug = none := by kernel_rfl
set_option maxRecDepth 100000 in
theorem lifted4 (os : Os) (started : os.Started) (H : Type) (enc : TypeId × Value → H) :
    ReturnsInHanded {} Tryz.checked os 4 .any (fun w args => (Rows.fnJoinPartsSpec.pre enc Tryz.prog Tryz.f4 [] false w args ∧ laidMetH Tryz.prog Rows.fnJoinPartsRow.laid w) ∧ sizedMet enc Tryz.prog Tryz.f4 (OpenSpec.ofChange Rows.fnJoinPartsSpec) false w args)
      (Rows.fnJoinPartsSpec.post enc Tryz.prog Tryz.f4 false true false false) := by
  refine returnsInHanded_of_change_and (C := Tryz.checked) (X := fun w _ => laidMetH Tryz.prog Rows.fnJoinPartsRow.laid w) (fun _ _ _ hh h => h.of_heap hh) own started (by kernel_rfl) Tryz.func4
    (ChangeSpec.witness_shaped (enc := enc) (C := Tryz.checked) (os := os) (X := fun w _ => laidMetH Tryz.prog Rows.fnJoinPartsRow.laid w) false (World.laidAll Tryz.prog os Rows.fnJoinPartsRow.laid)
      #[.slice none 0 0, .slice none 0 0, .string ByteArray.empty] 8 (World.laidAll_os _ _ _)
      (World.shaped_of_ZipB (by kernel_rfl) (by kernel_rfl)) (by kernel_rfl) (by kernel_rfl) (by kernel_rfl)
      (by rw [MakeChecks.laidMetH_plain _ _ _ (by kernel_rfl)]; exact laidMet_laidAll _ (by kernel_rfl) (by kernel_rfl))) ?_
  intro W base args ds gs before hval0 hW _ hsz hL _
  have hval : ∀ (j : Nat) t v, Tryz.f4.params[j]? = some t → args[j]? = some v → Value.okWide Tryz.prog W .any base t v := hval0
  have hW' := hW
  obtain ⟨p, q, hA0, hV, rfl, _, _⟩ := hW
  have hA : DataW.TrodAll enc Tryz.prog W 0 (fun _ => true) true Tryz.f4.params.toList args.toList ds p := hA0
  rw [Tryz.params4] at hA hval
  obtain ⟨v0, v1, v2, d0, d1, d2, p0, p1, p2, hargs, rfl, rfl, h0, h1, h2⟩ := trodAll_three hA
  subst hargs
  obtain ⟨rfl, rfl⟩ := trodVars_none hV
  have hs2 : OKW (DataW.weightsEach Tryz.prog ([24, 24, 9] ++ []) ([d0, d1, d2] ++ [])) := hsz
  simp only [List.append_nil, DataW.weightsEach, okw_append] at hs2
  obtain ⟨a, na, c, A, rfl, hn1, hna, r1, hA1⟩ := open_texts (hval 0 24 v0 rfl rfl) h0 hs2.1
  obtain ⟨a', nb, c', B, rfl, hn2, hnb, r2, hB1⟩ := open_texts (hval 1 24 v1 rfl rfl) h1 hs2.2.1
  obtain ⟨s, rfl, hs1⟩ := open_text (hval 2 9 v2 rfl rfl) h2 hs2.2.2
  rw [MakeChecks.laidMetH_plain _ _ _ (by kernel_rfl)] at hL
  have hT := tabs_of4 hL
  refine (law4_any A B s a a' na nb c c' W hna hnb hn1 hn2 hA1 hB1 hs1 r1 r2 hT (tabs_size hT)).mono fun e W' h => ?_
  obtain ⟨r, rfl, hr, hb⟩ := h
  obtain rfl := hr.out
  have hW2 := hW'
  simp only [List.append_nil] at hW2
  have hlt : ∀ q ∈ p0 ++ p1 ++ p2, q.block < W.heap.size := fun q hq => by simpa using hW2.lt q hq
  refine ⟨_, rfl, _, _, _, [], p0 ++ (p1 ++ p2), [], hW', trodAll_mk1 (shut_bool Tryz.underlying4 _), ?_, rfl, hb.frame _, fun h => by cases h⟩
  exact trodAll_mk3 (Below.trod laidOut_all (by kernel_rfl) (of_decide_eq_true (by kernel_rfl)) h0 hb (fun q hq => hlt q (List.mem_append_left _ (List.mem_append_left _ hq)))) (Below.trod laidOut_all (by kernel_rfl) (of_decide_eq_true (by kernel_rfl)) h1 hb (fun q hq => hlt q (List.mem_append_left _ (List.mem_append_right _ hq))))
    (Below.trod laidOut_all (by kernel_rfl) (of_decide_eq_true (by kernel_rfl)) h2 hb (fun q hq => hlt q (List.mem_append_right _ hq)))

end Go.Proofs.YtaockngppbeanaaGreatDoor
