/- gojq takes the keys of a map, sorted: those that rise come back as they were laid. -/
import Derived.Test.YtaockngppbeanaaGreatDoorToMap
import Derived.Test.YtaockngppbeanaaGreatDoorCmp
import Derived.Test.YtaockngppbeanaaGreatDoorShelf
import Derived.Sort.OwnSorted
namespace Go.Proofs.YtaockngppbeanaaGreatDoor
open Go.RowKit

def Tame {α : Type} (s : Sem α) : Prop := ∀ w a w', s.run Tryz.prog w = .ok a w' → w'.tape = w.tape
theorem Tame.pure {α : Type} (a : α) : Tame (Pure.pure a : Sem α) := fun w b w' h => by
  have : (Pure.pure a : Sem α).run Tryz.prog w = .ok a w := rfl
  rw [this] at h; cases h; rfl
theorem Tame.bind {α β : Type} {s : Sem α} {f : α → Sem β} (hs : Tame s) (hf : ∀ a, Tame (f a)) : Tame (s >>= f) := fun w b w' h => by
  rw [Sem.run_bind] at h
  cases hr : s.run Tryz.prog w with
  | ok a w1 =>
    rw [hr] at h
    exact (hf a w1 b w' h).trans (hs w a w1 hr)
  | halt e w1 => rw [hr] at h; cases h
theorem Tame.getObj (r : Nat) : Tame (Go.getObj r) := fun w b w' h => by
  unfold Go.getObj at h
  simp only [Sem.run] at h
  split at h <;> first | (cases h; rfl) | cases h
theorem Tame.setObj (r : Nat) (o : Obj) : Tame (Go.setObj r o) := fun w b w' h => by
  unfold Go.setObj at h
  simp only [Sem.run] at h
  split at h <;> first | (cases h; rfl) | cases h
theorem Tame.choose (q : Question) : Tame (Go.choose q) := fun w b w' h => by
  unfold Go.choose at h
  simp only [Sem.run] at h
  split at h <;> (cases h; rfl)
theorem Tame.halt {α : Type} (e : Halt) : Tame (Sem.halt e : Sem α) := fun w b w' h => by cases h
theorem tame_next (v : Value) (ty : TypeId) : Tame (Instr.next v false ty) := by
  unfold Instr.next
  split
  · apply Tame.bind (Tame.getObj _)
    intro a
    split
    · rename_i h; cases h
    · exact Tame.pure _
    · apply Tame.bind (Tame.getObj _)
      intro b
      split
      · split
        · exact Tame.bind (Tame.halt _) (fun _ => by
            apply Tame.bind (Tame.choose _)
            intro c
            split
            · apply Tame.bind (Tame.setObj _ _); intro _; exact Tame.pure _
            · exact Tame.pure _
            · exact Tame.halt _)
        · apply Tame.bind (Tame.choose _)
          intro c
          split
          · apply Tame.bind (Tame.setObj _ _); intro _; exact Tame.pure _
          · exact Tame.pure _
          · exact Tame.halt _
      · exact Tame.halt _
    · exact Tame.halt _
  · exact Tame.halt _
def ent (ks : List ByteArray) (V : Nat → Value) (i : Nat) : MapEntry := { key := .string (ks.getD i ByteArray.empty), val := V i, born := i }
theorem ents_list (ks : List ByteArray) (V : Nat → Value) (n : Nat) : (ents ks V n).toList = (List.range n).map (ent ks V) := rfl
theorem ents_size (ks : List ByteArray) (V : Nat → Value) (n : Nat) : (ents ks V n).size = n := by simp [ents]
theorem ents_born (ks : List ByteArray) (V : Nat → Value) (n : Nat) : (ents ks V n).toList.map (·.born) = List.range n := by
  rw [ents_list, List.map_map]
  have : (fun x : MapEntry => x.born) ∘ ent ks V = id := rfl
  rw [this, List.map_id]
theorem ents_mem {ks : List ByteArray} {V : Nat → Value} {n : Nat} {e : MapEntry} : e ∈ (ents ks V n).toList ↔ ∃ i, i < n ∧ e = ent ks V i := by
  rw [ents_list, List.mem_map]
  constructor
  · rintro ⟨i, hi, rfl⟩; exact ⟨i, List.mem_range.1 hi, rfl⟩
  · rintro ⟨i, hi, rfl⟩; exact ⟨i, List.mem_range.2 hi, rfl⟩
theorem left_mem {es : Array MapEntry} {seen : Array Nat} {e : MapEntry} : e ∈ (leftOf es seen).toList ↔ e ∈ es.toList ∧ e.born ∉ seen.toList := by
  simp [leftOf]

/-- One step of the walk over the keys. -/
theorem perm_step {idx left : List Nat} {n i : Nat} (h : (idx ++ left).Perm (List.range n)) (hi : i < n) (hn : i ∉ idx) : ∃ left', (idx ++ [i] ++ left').Perm (List.range n) := by
  have hm : i ∈ left := by
    have : i ∈ idx ++ left := h.mem_iff.2 (List.mem_range.2 hi)
    rcases List.mem_append.1 this with h | h
    · exact absurd h hn
    · exact h
  obtain ⟨l1, l2, rfl⟩ := List.append_of_mem hm
  refine ⟨l1 ++ l2, List.Perm.trans ?_ h⟩
  rw [List.append_assoc]
  exact List.Perm.append_left idx (List.perm_middle (l₁ := l1) (l₂ := l2) (a := i)).symm
theorem perm_end {idx left : List Nat} {n : Nat} (h : (idx ++ left).Perm (List.range n)) (hall : ∀ i, i < n → i ∈ idx) : idx.Perm (List.range n) ∧ idx.length = n := by
  have hl : left = [] := by
    rcases left with _ | ⟨i, l⟩
    · rfl
    · exfalso
      have hi : i < n := List.mem_range.1 (h.mem_iff.1 (by simp))
      have hd : (idx ++ i :: l).Nodup := h.nodup_iff.2 List.nodup_range
      rw [List.nodup_append] at hd
      exact hd.2.2 i (hall i hi) i (by simp) rfl
  subst hl
  rw [List.append_nil] at h
  exact ⟨h, by simpa using h.length_eq⟩
theorem perm_len {idx left : List Nat} {n : Nat} (h : (idx ++ left).Perm (List.range n)) : idx.length ≤ n := by
  have := h.length_eq; simp at this; omega

/-- Strings that rise, sorted out of any order. -/
theorem sorted_back {ks : List ByteArray} (ord : ∀ i, i + 1 < ks.length → lessB (ks.getD i ByteArray.empty) (ks.getD (i + 1) ByteArray.empty)) {ss : List (List UInt8)} (hp : ss.Perm (ks.map (·.data.toList))) :
    ss.mergeSort (fun x y => decide (x ≤ y)) = ks.map (·.data.toList) := by
  apply List.Perm.eq_of_pairwise (le := fun x y : List UInt8 => x ≤ y)
  · intro a b _ _ h1 h2; exact List.le_antisymm h1 h2
  · have := List.pairwise_mergeSort (le := fun x y : List UInt8 => decide (x ≤ y)) (fun a b c h1 h2 => by simp at *; exact List.le_trans h1 h2) (fun a b => by simp; exact List.le_total a b) ss
    exact this.imp (by simp)
  · rw [List.pairwise_map, List.pairwise_iff_getElem]
    intro i j hi hj hij
    obtain ⟨d, rfl⟩ : ∃ d, j = i + (d + 1) := ⟨j - i - 1, by omega⟩
    have h := lessB_chain ord d i hj
    simp only [List.getD_eq_getElem?_getD, List.getElem?_eq_getElem hi, List.getElem?_eq_getElem hj, Option.getD_some] at h
    unfold lessB at h
    rw [bytesLess_lt, ByteArray.toList_eq, ByteArray.toList_eq] at h
    simp only [decide_eq_true_eq] at h
    exact List.le_of_lt h
  · exact (List.mergeSort_perm _ _).trans hp

/-- A store into an older block, under the newest one. -/
theorem alloc_setCell (w : World) (o : Obj) (b i : Nat) (v : Value) (hb : b < w.heap.size) : (w.alloc o).setCell ⟨b, i, none⟩ v = (w.setCell ⟨b, i, none⟩ v).alloc o := by
  unfold World.setCell
  show ({ w with heap := _ } : World) = { w with heap := _ }
  congr 1
  apply Array.ext_getElem?
  intro k
  show ((w.heap.push o).modify b _)[k]? = ((w.heap.modify b _).push o)[k]?
  rw [Array.getElem?_modify, Array.getElem?_push, Array.getElem?_push, Array.getElem?_modify, Array.size_modify]
  by_cases hk : k = w.heap.size
  · subst hk; rw [if_neg (by omega)]; simp
  · simp [hk]

def RK (w : World) (ks : List ByteArray) (e : Ending) (w' : World) : Prop :=
  ∃ n, n = ks.length ∧ e = .returned (.slice (some ⟨w.heap.size, 0, none⟩) n n) ∧ (∀ i, i < n → w'.cell? ⟨w.heap.size, i, none⟩ = some (.string (ks.getD i ByteArray.empty))) ∧ w.heap.size < w'.heap.size ∧ Below w.heap.size w w'

theorem info9 : (Tryz.prog.info? 9).map (fun i => (i.zero, i.size, i.bytes)) = some (some (.string ⟨#[]⟩), 1, 16) := by kernel_rfl

/-- What the loop over the keys holds. -/
def KInv (w : World) (n : Nat) (ks : List ByteArray) (idx : List Nat) (ws : World) : Prop :=
  ∃ (left : List Nat) (arr : Array Value), ws.heap.size = w.heap.size + 1 ∧ Below w.heap.size w ws ∧ ws.heap[w.heap.size]? = some (.cells arr 9) ∧ arr.size = n ∧ (idx ++ left).Perm (List.range n) ∧
    ∀ q, q < idx.length → arr[q]? = some (.string (ks.getD (idx.getD q 0) ByteArray.empty))

theorem KInv.step {w ws w1 : World} {n i : Nat} {ks : List ByteArray} {idx : List Nat} (h : KInv w n ks idx ws) (ha : w1.Alike ws) (ht : w1.tape = ws.tape) (hi : i < n) (hn : i ∉ idx) :
    idx.length < n ∧ KInv w n ks (idx ++ [i]) (w1.setCell ⟨w.heap.size, idx.length, none⟩ (.string (ks.getD i ByteArray.empty))) := by
  obtain ⟨left, arr, h1, h2, h3, h4, h5, h6⟩ := h
  obtain ⟨left', hp⟩ := perm_step h5 hi hn
  have hl : idx.length < n := by have := perm_len hp; simp at this; omega
  refine ⟨hl, left', arr.setIfInBounds idx.length (.string (ks.getD i ByteArray.empty)), ?_, ?_, block_set (by rw [ha.1]; exact h3), by simp [h4], hp, fun q hq => ?_⟩
  · show (w1.heap.modify _ _).size = _
    rw [Array.size_modify, ha.1, h1]
  · refine Below.setCell (B := w.heap.size) ⟨ha.2.1.trans h2.os, ht.trans h2.tape, ha.2.2.trans h2.output, by rw [ha.1]; exact h2.size, fun k hk => by rw [ha.1]; exact h2.block k hk⟩ (Nat.le_refl _) _
  · simp only [List.length_append, List.length_singleton] at hq
    by_cases e : q = idx.length
    · subst e
      simp [h4, hl]
    · rw [Array.getElem?_setIfInBounds_ne (by omega), h6 q (by omega)]
      simp only [List.getD_eq_getElem?_getD, List.getElem?_append_left (show q < idx.length by omega)]

theorem run_len_map {w : World} {r : Nat} {es : Array MapEntry} {clock : Nat} (h : w.heap[r]? = some (.map es clock)) : (Builtin.len_ #[74] 3 #[.map (some r)]).run Tryz.prog w = .ok (.int .i64 es.size) w := by
  simp [Builtin.len_, MapKept.run_getObj_map h, Result.andThen]
  rfl

open Go.Sort in
theorem encStr_of (s : ByteArray) : Go.Proofs.encStr s.data.toList = .string s := by
  show Value.string ⟨s.data.toList.toArray⟩ = _
  simp
open Go.Sort Go.Proofs in
theorem KInv.sort {w ws : World} {n : Nat} {ks : List ByteArray} {idx : List Nat} (h : KInv w n ks idx ws) (o : Obj) (hn : n = ks.length) (hl : n ≤ 400) (hall : ∀ i, i < n → i ∈ idx)
    (ord : ∀ i, i + 1 < ks.length → lessB (ks.getD i ByteArray.empty) (ks.getD (i + 1) ByteArray.empty)) :
    Calls Tryz.prog 153 #[.slice (some ⟨w.heap.size, 0, none⟩) n n] (ws.alloc o) fun e w' => e = .returned (.tuple #[]) ∧ (∀ i, i < n → w'.cell? ⟨w.heap.size, i, none⟩ = some (.string (ks.getD i ByteArray.empty))) ∧ w.heap.size < w'.heap.size ∧ Below w.heap.size w w' := by
  obtain ⟨left, arr, h1, h2, h3, h4, h5, h6⟩ := h
  obtain ⟨hp, hlen⟩ := perm_end h5 hall
  have hb : (ws.alloc o).heap[w.heap.size]? = some (.cells arr 9 (0, 0)) := by rw [Go.heap_alloc_old _ _ (by omega)]; exact h3
  have hss : (idx.map fun i => (ks.getD i ByteArray.empty).data.toList).length = n := by simp [hlen]
  have hperm : (idx.map fun i => (ks.getD i ByteArray.empty).data.toList).Perm (ks.map (·.data.toList)) := by
    have e : ks.map (·.data.toList) = (List.range n).map fun i => (ks.getD i ByteArray.empty).data.toList := by
      apply List.ext_getElem
      · simp [hn]
      · intro i g1 g2
        simp at g1
        simp [List.getElem?_eq_getElem g1]
    rw [e]
    exact hp.map _
  have hback := sorted_back ord hperm
  have ht : arr.toList.take (idx.map fun i => (ks.getD i ByteArray.empty).data.toList).length = (idx.map fun i => (ks.getD i ByteArray.empty).data.toList).map encStr := by
    rw [hss]
    apply List.ext_getElem?
    intro q
    by_cases hq : q < n
    · rw [List.getElem?_take_of_lt hq, Array.getElem?_toList, h6 q (by omega), List.map_map, List.getElem?_map]
      rw [List.getElem?_eq_getElem (by omega)]
      simp only [Option.map_some, Function.comp, encStr_of]
      congr 3
      simp [List.getElem?_eq_getElem (show q < idx.length by omega)]
    · rw [List.getElem?_eq_none (by simp; omega), List.getElem?_eq_none (by simp; omega)]
  have hs := Tryz.sort_Strings w.heap.size 0 n _ (ws.alloc o) (holds_of_block hb ht) (by simp; omega) (by rw [hss]; omega)
  rw [hss, hback] at hs
  refine hs.mono ?_
  rintro e w' ⟨he, m, os, rfl⟩
  have hbl : Below w.heap.size w (ws.alloc o) := h2.alloc (by omega) _
  have hg := grownBy_sorted (w := ws.alloc o) (g := w.heap.size) (n := m) (os := os) (ks.map (·.data.toList)).toArray
  refine ⟨he, fun i hi => ?_, ?_, hbl.grown hg (by simp; omega) (fun k hk => by cases hk; exact Nat.le_refl _)⟩
  · have hh := heap_sorted (n := m) (os := os) (ks.map (·.data.toList)).toArray hb
    rw [(cell_of_block hh i).1]
    have htk := take_putCells arr (ks.map (·.data.toList)) (by simp; omega)
    have h7 : ((putCells encStr 0 (ks.map (·.data.toList)).toArray arr).toList.take (ks.map (·.data.toList)).length)[i]? = ((ks.map (·.data.toList)).map encStr)[i]? := by rw [htk]
    rw [List.getElem?_take_of_lt (by simp; omega), Array.getElem?_toList] at h7
    rw [h7, List.map_map, List.getElem?_map, List.getElem?_eq_getElem (by omega)]
    simp only [Option.map_some, Function.comp, encStr_of]
    congr 2
    simp [List.getElem?_eq_getElem (show i < ks.length by omega)]
  · have h8 := hg.size
    have h9 : (ws.alloc o).heap.size = ws.heap.size + 1 := by simp
    omega

set_option maxRecDepth 100000 in
set_option maxHeartbeats 4000000 in
theorem keys_gen (ks : List ByteArray) (V : Nat → Value) (r : Nat) (w : World) (hm : w.heap[r]? = some (.map (ents ks V ks.length) ks.length)) (hl : ks.length ≤ 400)
    (ord : ∀ i, i + 1 < ks.length → lessB (ks.getD i ByteArray.empty) (ks.getD (i + 1) ByteArray.empty)) :
    Calls Tryz.prog 127 #[.map (some r)] w (RK w ks) := by
  have hr : r < w.heap.size := (Array.getElem?_eq_some_iff.1 hm).1
  obtain ⟨POST, hP⟩ : ∃ P, RK w ks = P := ⟨_, rfl⟩
  rw [hP]
  have HP := Lib.hid hP; clear hP
  have HO := Lib.hid ord; clear ord
  obtain ⟨n, hn⟩ : ∃ n, ks.length = n := ⟨_, rfl⟩
  have HN := Lib.hid hn
  rw [hn] at hm hl
  clear hn
  have hmk := run_make_row' (P := Tryz.prog) 24 9 (.string ⟨#[]⟩) 16 Tryz.underlying24 info9 rfl .i64 .i64 n (by omega) (by omega)
  have hlen := run_len_map hm
  rw [ents_size] at hlen
  have hrg := run_range_map (P := Tryz.prog) (w.alloc (.cells (madeCells #[.string ⟨#[]⟩] n) 9)) 74 9 20 r (ents ks V n) n Tryz.underlying74 (by rw [Go.heap_alloc_old _ _ hr]; exact hm)
  go_enter Tryz.func127, Tryz.ntmps127
  go_wp2_with fail
  go_loopw [4] (fun i wr => ∃ (idx : List Nat) (ws : World), i = .int .i64 idx.length ∧ wr = ws.alloc (.mapIter (some r) n idx.toArray n) ∧ KInv w n ks idx ws) (fun i _ => n - (intOf i).toNat)
  case atStart => exact ⟨[], _, rfl, rfl, List.range n, _, by simp, (Below.refl _ _).alloc (Nat.le_refl _) _, heap_alloc_new _ _, size_madeCells _ _, by simp, fun q hq => by simp at hq⟩
  case round =>
    obtain ⟨idx, ws, rfl, rfl, hinv⟩ := hrel
    have hws : ws.heap.size = w.heap.size + 1 := by obtain ⟨_, _, h, _⟩ := hinv; exact h
    have hbw : Below w.heap.size w ws := by obtain ⟨_, _, _, h, _⟩ := hinv; exact h
    have hmw : ws.heap[r]? = some (.map (ents ks V n) n) := (hbw.block r hr).trans hm
    have hnd : ((ents ks V n).toList.map (·.born)).Nodup := by rw [ents_born]; exact List.nodup_range
    rcases run_next_map (P := Tryz.prog) ws 0 r n n idx.toArray (ents ks V n) n hmw (fun x hx => by obtain ⟨i, hi, rfl⟩ := ents_mem.1 hx; exact hi) (Nat.le_refl _) with ⟨h0, hrun⟩ | ⟨e, he, w1, hal, hrun⟩
    · have hall : ∀ i, i < n → i ∈ idx := fun i hi => by
        by_cases hc : i ∈ idx
        · exact hc
        · exfalso
          have : ent ks V i ∈ (leftOf (ents ks V n) idx.toArray).toList := left_mem.2 ⟨ents_mem.2 ⟨i, hi, rfl⟩, hc⟩
          have h1 := List.length_pos_of_mem this
          simp at h1; omega
      clear h0 hnd
      rw [hws] at hrun
      have hsrt := hinv.sort (.mapIter (some r) n idx.toArray n) HN.out.symm hl hall HO.out
      clear hall hinv
      go_wp2_with fail
      refine hsrt.mono ?_
      rintro e w7 ⟨rfl, hc7, hs7, hb7⟩
      have HC := Lib.hid hc7; clear hc7
      go_wp2_with fail
      rw [← HP.out]
      exact ⟨n, HN.out.symm, rfl, HC.out, hs7, hb7⟩
    · obtain ⟨he1, he2⟩ := left_mem.1 he
      obtain ⟨i, hi, rfl⟩ := ents_mem.1 he1
      have hni : i ∉ idx := he2
      have ht1 : w1.tape = ws.tape := tame_next _ _ (ws.alloc _) _ (w1.alloc _) hrun
      obtain ⟨hlt, hinv2⟩ := hinv.step hal ht1 hi hni
      have hent := run_entry_map (P := Tryz.prog) w1 r n idx.toArray (ents ks V n) n (ent ks V i) (by rw [hal.1]; exact hmw) he1 hnd
      rw [hws] at hrun
      rw [show w1.heap.size = w.heap.size + 1 by rw [hal.1, hws]] at hent
      obtain ⟨_, arr, _, _, g3, g4, _⟩ := hinv
      have g5 := cell_of_block (show w1.heap[w.heap.size]? = _ by rw [hal.1]; exact g3) idx.length
      obtain ⟨old, g6⟩ : ∃ old, w1.cell? ⟨w.heap.size, idx.length, none⟩ = some old := ⟨_, g5.1.trans (Array.getElem?_eq_getElem (by omega))⟩
      have g7 := g5.2
      clear g3 g4 g5 he he1 he2 hnd
      have hsz1 : w1.heap.size = w.heap.size + 1 := by rw [hal.1, hws]
      obtain ⟨s, hs⟩ : ∃ s, ks.getD i ByteArray.empty = s := ⟨_, rfl⟩
      rw [hs] at hinv2
      have hpush : idx.toArray.push i = (idx ++ [i]).toArray := by simp
      have hrun' : (Instr.next (.pointer (some ⟨w.heap.size + 1, 0, none⟩)) false 0).run Tryz.prog (ws.alloc (.mapIter (some r) n idx.toArray n)) = .ok (.tuple #[.bool true, .string s, V i]) (w1.alloc (.mapIter (some r) n (idx ++ [i]).toArray n)) := by
        rw [hrun, ← hpush, ← hs]; rfl
      have hent' : (Instr.entry (.pointer (some ⟨w.heap.size + 1, 0, none⟩))).run Tryz.prog (w1.alloc (.mapIter (some r) n (idx ++ [i]).toArray n)) = .ok (.tuple #[.string s, V i]) (w1.alloc (.mapIter (some r) n (idx ++ [i]).toArray n)) := by
        rw [← hpush, ← hs]; exact hent
      obtain ⟨vi, hvi⟩ : ∃ vi, V i = vi := ⟨_, rfl⟩
      rw [hvi] at hrun' hent'
      clear hrun hent hpush hs hvi hws hal ht1
      have hz : (idx.length : Int) < (n : Int) := by omega
      have hseen : Hid ((idx ++ [i]).length = idx.length + 1) := by show _ = _; simp
      generalize hidx : idx ++ [i] = idx2 at *
      clear hidx
      have Hnew := Lib.hid hinv2; clear hinv2 hni
      go_wp2_with fail
      go_roundw
      case rel => exact ⟨idx2, _, by rw [hseen.out]; go_num, rfl, Hnew.out⟩
      case measure => simp [intOf]; omega
end Go.Proofs.YtaockngppbeanaaGreatDoor
