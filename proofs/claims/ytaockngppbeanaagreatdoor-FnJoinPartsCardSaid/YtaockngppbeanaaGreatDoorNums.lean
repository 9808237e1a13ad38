/- A row of numbers as a value. -/
import Derived.Test.YtaockngppbeanaaGreatDoorImplIdx
import Derived.Test.YtaockngppbeanaaGreatDoorCmp
namespace Go.Proofs.YtaockngppbeanaaGreatDoor
open Go.RowKit

theorem numsC_cons (k : Nat) (L : List Nat) : numsC (k :: L) = c6 (numC k) ++ numsC L := by
  simp [numsC, c6, numC]
  rfl
theorem numsC_get : ∀ (L : List Nat) (i j : Nat), i < L.length → j < 6 → (numsC L)[i * 6 + j]? = (c6 (numC (L.getD i 0)))[j]?
  | [], i, j, h, _ => by simp at h
  | k :: L, 0, j, _, hj => by
    rw [numsC_cons, List.getElem?_append_left (by simp [c6]; omega)]
    simp
  | k :: L, i + 1, j, h, hj => by
    rw [numsC_cons, List.getElem?_append_right (by simp [c6]; omega)]
    have e : (i + 1) * 6 + j - (c6 (numC k)).length = i * 6 + j := by simp [c6]; omega
    rw [e, numsC_get L i j (by simpa using h) hj]
    simp

def listC (a : Option Addr) (n c : Nat) : VC := { kind := 5, half := 0, text := ByteArray.empty, la := a, ln := n, lc := c, ka := none, kn := 0, kc := 0, va := none, vn := 0, vc := 0 }
def listJ (L : List Nat) : JV := JV.mk 5 0 ByteArray.empty (L.map numJ) [] []

theorem VRep.num (w : World) (B k : Nat) (hk : k ≤ 2000) : VRep w B (numC k) (numJ k) :=
  .mk (numC k) [] [] [] (fun _ => numC 0) (fun _ => numC 0) rfl rfl rfl (by simp [numC]) (by simp [numC]) (by simp [numC]) (by simp [numC]) (by simp [numC]) (by simp [numC]) (by simp [numC]) (by simp [numC]) (by simp [numC])
    (by simp [numC]) (by simp [numC]) (by simp [numC]; omega) (fun i h => by simp at h) (Or.inl rfl) (Or.inl rfl) (Or.inl rfl) (fun i h => by simp at h) (fun i h => by simp at h)

theorem VRep.nums {w : World} {base n c hi : Nat} {a : Option Addr} {L : List Nat} (h : w.ownsRow base 26 6 (.slice a n c) n (numsC L)) (hn : n = L.length) (hL : ∀ k ∈ L, k ≤ 2000) (hl : L.length ≤ 2000) (hh : w.heap.size ≤ hi) (hc : c ≤ 9223372036854775807) : VRep w hi (listC a n c) (listJ L) := by
  have hr : n ≤ c ∧ Row6 w hi a n (fun i => numC (L.getD i 0)) := by
    obtain ⟨h1, ⟨e, h2⟩ | ⟨g, cap, cur, e1, e2, e3, e4, e5, e6, e7⟩⟩ := h
    · exact ⟨by omega, Or.inl h2⟩
    · injection e1 with x1 x2 x3
      subst x1 x3
      have hg := (Array.getElem?_eq_some_iff.1 e3).1
      refine ⟨e4, Or.inr ⟨g, 0, rfl, by omega, fun i hi => ?_⟩⟩
      have cell : ∀ j, j < 6 → w.cell? ⟨g, 0 + i * 6 + j, none⟩ = (c6 (numC (L.getD i 0)))[j]? := fun j hj => by
        rw [(cell_of_block e3 _).1, ← numsC_get L i j (by omega) hj, ← e7, List.getElem?_take_of_lt (by omega)]
        simp
      exact ⟨by simpa [c6] using cell 0 (by omega), by simpa [c6] using cell 1 (by omega), by simpa [c6] using cell 2 (by omega), by simpa [c6] using cell 3 (by omega), by simpa [c6] using cell 4 (by omega), by simpa [c6] using cell 5 (by omega)⟩
  refine .mk (listC a n c) (L.map numJ) [] [] (fun i => numC (L.getD i 0)) (fun _ => numC 0) (by simp [listC, hn]) rfl rfl (by simp [listC]; omega) (by simp [listC]) (by simp [listC]) (by simp [listC]; exact hr.1) (by simp [listC]) (by simp [listC]) (by simp [listC]; omega) (by simp [listC]) (by simp [listC])
    (by simp [listC]) (by simp [listC]) (by simp [listC]) (fun i h => by simp at h) hr.2 (Or.inl rfl) (Or.inl rfl) (fun i h => ?_) (fun i h => by simp at h)
  have h2 : i < L.length := by simpa using h
  have e2 : (L.map numJ)[i] = numJ (L.getD i 0) := by simp [List.getElem?_eq_getElem h2]
  rw [e2]
  refine VRep.num _ _ _ ?_
  rw [List.getD_eq_getElem?_getD, List.getElem?_eq_getElem h2]
  exact hL _ (List.getElem_mem h2)

theorem Right.num (k : Nat) (hk : k ≤ 2000) : Right (numJ k) :=
  .mk _ _ _ _ _ _ (by decide) (by decide) (Or.inl rfl) (Or.inr rfl) (Or.inr rfl) (Or.inr rfl) rfl (by omega) (by omega) (Or.inl (by omega)) (by decide) (by decide) (by decide) (fun s h => by simp at h) (fun i h => by simp at h) (fun x h => by simp at h) (fun x h => by simp at h)
end Go.Proofs.YtaockngppbeanaaGreatDoor
