/- laws.FnIndices, lifted: every call on arguments that can be read returns true and leaves them as they were. Condition: the listed tables of the library lie as its text lays them. -/
import Derived.Test.YtaockngppbeanaaGreatDoorLaw
import Derived.Test.YtaockngppbeanaaGreatDoorRows
import Derived.Lib.LaidU8T
import Derived.PinnedBridge
import Derived.Lay
import Derived.ProofKit
import Derived.Stop.Joined
import Derived.LaidMore
namespace Go.Proofs.YtaockngppbeanaaGreatDoor
open Go Go.RowKit Go.Shelf Go.ChangeShapes Go.WideShapes Go.ChangeAt

theorem xU8 : U8Extra Tryz.prog Tryz.laysValid_ren := ⟨by kernel_rfl, by kernel_rfl, by kernel_rfl, by kernel_rfl, by kernel_rfl, by kernel_rfl, by kernel_rfl⟩
theorem accept_eq : Rows.laid_unicode_utf8_acceptRanges = Lib.acceptData := by kernel_rfl
theorem tabs_of {W : World} (h : laidMet Tryz.prog Rows.fnIndicesRow.laid W) : Lib.Utf8Tabs 0 1 W :=
  utf8Tabs_of_readsT (P := Tryz.prog) (ρ := Tryz.laysValid_ren) (U8Types.of196 Tryz.laysValid) xU8
    (Pinned.utf8First_eq ▸ Lib.laidMet.reads h (n := "unicode/utf8.first") (d := Go.Pinned.utf8First) (by unfold Rows.fnIndicesRow; simp [Rows.laid_unicode_utf8_first]))
    (accept_eq ▸ Lib.laidMet.reads h (n := "unicode/utf8.acceptRanges") (d := Rows.laid_unicode_utf8_acceptRanges) (by unfold Rows.fnIndicesRow; simp))
theorem tabs_size {W : World} (h : Lib.Utf8Tabs 0 1 W) : 2 ≤ W.heap.size := by
  have := (h.2 0 (by omega)).1
  by_cases hb : 1 < W.heap.size
  · omega
  · unfold World.cell? at this
    simp [Array.getElem?_eq_none (show W.heap.size ≤ 1 by omega)] at this

set_option maxRecDepth 100000 in
/-- An argument of type impl.Value. -/
theorem open_value {H : Type} {enc : TypeId × Value → H} {W : World} {r : Reach} {b0 : Nat} {v : Value} {d : DataW H} {p : List MemPlace} (hv : Value.okWide Tryz.prog W r b0 26 v)
    (h : DataW.Trod enc Tryz.prog W 0 (fun _ => true) true 26 v d p) (hw : OKW (d.weights Tryz.prog 26)) : ∃ (X : VC) (j : JV), v = X.val ∧ VRep W W.heap.size X j := by
  obtain ⟨cs, rfl, hsz⟩ := okWide_struct Tryz.underlying26 hv
  obtain ⟨fuel, hf⟩ := h
  obtain ⟨X, j, hc, hr⟩ := read_value W _ fuel _ _ (Nat.lt_succ_self _) hf hw
  refine ⟨X, j, ?_, hr⟩
  have : cs.toList = _ := hc
  rw [← Array.toArray_toList (xs := cs), this]

theorem laidOut_all : laidOutB Tryz.prog = true := by kernel_rfl
theorem own : ownKnob Tryz.prog.godebug = none := by kernel_rfl
set_option maxRecDepth 100000 in
theorem lifted (os : Os) (started : os.Started) (H : Type) (enc : TypeId × Value → H) :
    ReturnsInHanded {} Tryz.checked os 3 .any (fun w args => (Rows.fnIndicesSpec.pre enc Tryz.prog Tryz.f3 [] false w args ∧ laidMetH Tryz.prog Rows.fnIndicesRow.laid w) ∧ sizedMet enc Tryz.prog Tryz.f3 (OpenSpec.ofChange Rows.fnIndicesSpec) false w args)
      (Rows.fnIndicesSpec.post enc Tryz.prog Tryz.f3 false true false false) := by
  refine returnsInHanded_of_change_and (C := Tryz.checked) (X := fun w _ => laidMetH Tryz.prog Rows.fnIndicesRow.laid w) (fun _ _ _ hh h => h.of_heap hh) own started (by kernel_rfl) Tryz.func3
    (ChangeSpec.witness_shaped (enc := enc) (C := Tryz.checked) (os := os) (X := fun w _ => laidMetH Tryz.prog Rows.fnIndicesRow.laid w) false (World.laidAll Tryz.prog os Rows.fnIndicesRow.laid)
      #[.agg #[.int .i64 0, .int .i64 0, .string ByteArray.empty, .slice none 0 0, .slice none 0 0, .slice none 0 0], .agg #[.int .i64 0, .int .i64 0, .string ByteArray.empty, .slice none 0 0, .slice none 0 0, .slice none 0 0]] 8 (World.laidAll_os _ _ _)
      (World.shaped_of_ZipB (by kernel_rfl) (by kernel_rfl)) (by kernel_rfl) (by kernel_rfl) (by kernel_rfl)
      (by rw [MakeChecks.laidMetH_plain _ _ _ (by kernel_rfl)]; exact laidMet_laidAll _ (by kernel_rfl) (by kernel_rfl))) ?_
  intro W base args ds gs before hval0 hW _ hsz hL _
  have hval : ∀ (j : Nat) t v, Tryz.f3.params[j]? = some t → args[j]? = some v → Value.okWide Tryz.prog W .any base t v := hval0
  have hW' := hW
  obtain ⟨p, q, hA0, hV, rfl, _, _⟩ := hW
  have hA : DataW.TrodAll enc Tryz.prog W 0 (fun _ => true) true Tryz.f3.params.toList args.toList ds p := hA0
  rw [Tryz.params3] at hA hval
  obtain ⟨v0, v1, d0, d1, p0, p1, hargs, rfl, rfl, h0, h1⟩ := trodAll_two hA
  subst hargs
  obtain ⟨rfl, rfl⟩ := trodVars_none hV
  have hs2 : OKW (DataW.weightsEach Tryz.prog ([26, 26] ++ []) ([d0, d1] ++ [])) := hsz
  simp only [List.append_nil, DataW.weightsEach, okw_append] at hs2
  obtain ⟨x, j1, rfl, hx⟩ := open_value (hval 0 26 v0 rfl rfl) h0 hs2.1
  obtain ⟨y, j2, rfl, hy⟩ := open_value (hval 1 26 v1 rfl rfl) h1 hs2.2
  rw [MakeChecks.laidMetH_plain _ _ _ (by kernel_rfl)] at hL
  have hT := tabs_of hL
  refine (law_any j1 j2 x y W hx hy hT (tabs_size hT)).mono fun e W' h => ?_
  obtain ⟨r, rfl, hr, hb⟩ := h
  obtain rfl := hr.out
  have hW2 := hW'
  simp only [List.append_nil] at hW2
  have hlt : ∀ q ∈ p0 ++ p1, q.block < W.heap.size := fun q hq => by simpa using hW2.lt q hq
  refine ⟨_, rfl, _, _, _, [], p0 ++ p1, [], hW', trodAll_mk1 (shut_bool Tryz.underlying4 _), ?_, rfl, hb.frame _, fun h => by cases h⟩
  exact trodAll_mk2 (Below.trod laidOut_all (by kernel_rfl) (of_decide_eq_true (by kernel_rfl)) h0 hb (fun q hq => hlt q (List.mem_append_left _ hq))) (Below.trod laidOut_all (by kernel_rfl) (of_decide_eq_true (by kernel_rfl)) h1 hb (fun q hq => hlt q (List.mem_append_right _ hq)))

end Go.Proofs.YtaockngppbeanaaGreatDoor
