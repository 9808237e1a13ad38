/- A text stands in an ASCII one where its runes do: plain law. -/
import Derived.Test.YtaockngppbeanaaGreatDoorFind
namespace Go.Proofs.YtaockngppbeanaaGreatDoor
open Go.RowKit

theorem toList_size (s : ByteArray) : s.toList.length = s.size := by
  rw [ByteArray.toList_eq]; rfl
theorem runes_ascii (s : ByteArray) (hs : Ascii s) : ∀ (f pos : Nat), s.size ≤ pos + f → runes s f pos = (s.toList.drop pos).map UInt8.toNat
  | 0, pos, h => by
    have : s.toList.drop pos = [] := by rw [List.drop_eq_nil_iff, toList_size]; omega
    simp [runes, this]
  | f + 1, pos, h => by
    unfold runes
    split
    · rename_i hp
      rw [decode_ascii s pos hp (hs pos hp), runes_ascii s hs f (pos + 1) (by omega)]
      have e : s.toList.drop pos = s[pos]'hp :: s.toList.drop (pos + 1) := by
        rw [ByteArray.toList_eq]
        rw [List.drop_eq_getElem_cons (by rw [← ByteArray.toList_eq, toList_size]; exact hp)]
        rfl
      rw [e]; rfl
    · rename_i hp
      have : s.toList.drop pos = [] := by rw [List.drop_eq_nil_iff, toList_size]; omega
      simp [this]
theorem runesOf_ascii (s : ByteArray) (hs : Ascii s) : runesOf s = s.toList.map UInt8.toNat := by
  rw [runesOf, runes_ascii s hs _ _ (by omega)]; simp

theorem runes_high (t : ByteArray) : ∀ (f pos : Nat), t.size ≤ pos + f → (∀ r ∈ runes t f pos, r < 128) → ∀ i, pos ≤ i → ∀ h : i < t.size, (t[i]'h).toNat < 128
  | 0, pos, hf, _, i, hi, h => by omega
  | f + 1, pos, hf, hr, i, hi, h => by
    have hp : pos < t.size := by omega
    have hlow : (t[pos]'hp).toNat < 128 := by
      refine Decidable.byContradiction (fun hc => ?_)
      have := (decode_high t pos hp (by omega)).1
      have h2 := hr (Utf8.decode t pos).1 (by simp [runes, hp])
      omega
    by_cases e : i = pos
    · subst e; exact hlow
    · refine runes_high t f (pos + 1) (by omega) (fun r hr2 => hr r ?_) i (by omega) h
      simp [runes, hp, decode_ascii t pos hp hlow]
      exact Or.inr hr2
theorem runesOf_high (t : ByteArray) (h : ∀ r ∈ runesOf t, r < 128) : Ascii t := fun i hi => runes_high t t.size 0 (by omega) h i (Nat.zero_le _) hi

theorem numJ_inj {a b : Nat} (h : numJ a = numJ b) : a = b := by
  simp [numJ] at h; omega
theorem map_numJ_inj {a b : List Nat} (h : a.map numJ = b.map numJ) : a = b := (List.map_inj_right (fun _ _ h => numJ_inj h)).1 h
theorem map_toNat_inj {a b : List UInt8} (h : a.map UInt8.toNat = b.map UInt8.toNat) : a = b := (List.map_inj_right (fun _ _ h => UInt8.toNat_inj.1 h)).1 h
theorem extract_toList (s : ByteArray) (a b : Nat) : (s.extract a b).toList = (s.toList.drop a).take (b - a) := by
  rw [ByteArray.toList_eq, ByteArray.toList_eq, ByteArray.data_extract]
  simp

theorem ascii_of_toList {t : ByteArray} (h : ∀ b ∈ t.toList, b.toNat < 128) : Ascii t := fun i hi => by
  refine h _ ?_
  rw [ByteArray.toList_eq]
  exact Array.mem_toList_iff.2 (Array.getElem_mem (xs := t.data) (i := i) hi)
theorem Ascii.toList {t : ByteArray} (h : Ascii t) : ∀ b ∈ t.toList, b.toNat < 128 := fun b hb => by
  rw [ByteArray.toList_eq] at hb
  obtain ⟨i, hi, rfl⟩ := List.getElem_of_mem hb
  exact h i hi

/-- A text stands in an ASCII one where its runes do. -/
theorem stands_iff (s t : ByteArray) (hs : Ascii s) (m : Nat) :
    (m < (runesJ s).length + 1 - (runesJ t).length ∧ ((runesJ s).drop m).take (runesJ t).length = runesJ t) ↔ Stands s t m := by
  have hrs := runesOf_ascii s hs
  by_cases hta : Ascii t
  · have hrt := runesOf_ascii t hta
    have l1 : (runesJ s).length = s.size := by rw [runesJ, hrs]; simp [toList_size]
    have l2 : (runesJ t).length = t.size := by rw [runesJ, hrt]; simp [toList_size]
    rw [l1, l2]
    have hk : ((runesJ s).drop m).take t.size = runesJ t ↔ s.extract m (m + t.size) = t := by
      rw [runesJ, runesJ, hrs, hrt]
      constructor
      · intro h
        have h2 : (s.toList.drop m).take t.size = t.toList := by
          refine map_toNat_inj (map_numJ_inj ?_)
          simpa [List.map_drop, List.map_take] using h
        refine toList_inj ?_
        rw [extract_toList, Nat.add_sub_cancel_left]
        exact h2
      · intro h
        have h2 : (s.toList.drop m).take t.size = t.toList := by
          rw [← Nat.add_sub_cancel_left (n := m) (m := t.size), ← extract_toList, h]
        have := congrArg (fun l => (l.map UInt8.toNat).map numJ) h2
        simpa [List.map_drop, List.map_take] using this
    rw [hk, Stands]
    constructor
    · rintro ⟨h1, h2⟩; exact ⟨by omega, h2⟩
    · rintro ⟨h1, h2⟩; exact ⟨by omega, h2⟩
  · constructor
    · rintro ⟨h1, h2⟩
      refine absurd (runesOf_high t (fun r hr => ?_)) hta
      have hm : numJ r ∈ runesJ t := List.mem_map_of_mem hr
      rw [← h2] at hm
      have hm2 := List.mem_of_mem_drop (List.mem_of_mem_take hm)
      obtain ⟨r', hr', e⟩ := List.mem_map.1 hm2
      have := numJ_inj e
      subst this
      rw [hrs] at hr'
      obtain ⟨b, hb, rfl⟩ := List.mem_map.1 hr'
      exact hs.toList b hb
    · rintro ⟨h1, h2⟩
      refine absurd (ascii_of_toList (fun b hb => ?_)) hta
      rw [← h2, extract_toList] at hb
      exact hs.toList b (List.mem_of_mem_drop (List.mem_of_mem_take hb))
end Go.Proofs.YtaockngppbeanaaGreatDoor
