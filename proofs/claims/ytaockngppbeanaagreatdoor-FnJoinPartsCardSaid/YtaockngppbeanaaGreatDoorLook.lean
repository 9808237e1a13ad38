/- The reference looks at values: want, part and str of spec.looker, each called with a looker in a block of its own. -/
import Derived.Test.YtaockngppbeanaaGreatDoorBase
import Derived.Test.YtaockngppbeanaaGreatDoorShelf
import Derived.Deep.DeepCutAuto
import Derived.StillTailTactics
import Derived.BigQuiet
import Derived.Deep.QuietTactic
namespace Go.Proofs.YtaockngppbeanaaGreatDoor
open Go.RowKit

/-- utf8's two tables lie as they were laid. -/
def Tabs (w : World) : Prop := Lib.Utf8Tabs 0 1 w

/-- Only block L, and new ones, have turned. -/
structure Mods (L : Nat) (w w' : World) : Prop where
  os : w'.os = w.os
  tape : w'.tape = w.tape
  output : w'.output = w.output
  size : w.heap.size ≤ w'.heap.size
  block : ∀ k, k < w.heap.size → k ≠ L → w'.heap[k]? = w.heap[k]?

theorem Mods.refl (L : Nat) (w : World) : Mods L w w := ⟨rfl, rfl, rfl, Nat.le_refl _, fun _ _ _ => rfl⟩
theorem Mods.trans {L : Nat} {a b c : World} (h : Mods L a b) (k : Mods L b c) : Mods L a c :=
  ⟨k.os.trans h.os, k.tape.trans h.tape, k.output.trans h.output, Nat.le_trans h.size k.size, fun i hi hl => (k.block i (Nat.lt_of_lt_of_le hi h.size) hl).trans (h.block i hi hl)⟩
theorem Mods.of_below {L : Nat} {a b : World} (h : Below a.heap.size a b) : Mods L a b :=
  ⟨h.os, h.tape, h.output, h.size, fun k hk _ => h.block k hk⟩
theorem Mods.set (L i : Nat) (v : Value) (w : World) : Mods L w (w.setCell ⟨L, i, none⟩ v) :=
  ⟨rfl, rfl, rfl, by simp [World.setCell], fun _ _ hl => Below.heap_setCell _ _ _ _ hl⟩
/-- What lies below L. -/
theorem Mods.below {L : Nat} {a b : World} (h : Mods L a b) (hL : L ≤ a.heap.size) : Below L a b :=
  ⟨h.os, h.tape, h.output, h.size, fun k hk => h.block k (by omega) (by omega)⟩
theorem Mods.cell {L : Nat} {a b : World} (h : Mods L a b) {p : Addr} (hp : p.block < a.heap.size) (hl : p.block ≠ L) : b.cell? p = a.cell? p :=
  World.cell?_of_block (w := a) (h.block p.block hp hl)
theorem Mods.frozen {L : Nat} {a b : World} (h : Mods L a b) {p : Addr} (hp : p.block < a.heap.size) (hl : p.block ≠ L) : b.frozen? p = a.frozen? p :=
  World.frozen?_of_block (w := a) (h.block p.block hp hl)

/-- The looker's three fields. -/
def LkAt (w : World) (L : Nat) (p b : Int) (bad : Bool) : Prop := w.heap[L]? = some (.cells #[.int .i64 p, .int .i64 b, .bool bad] 56 (0, 0))

theorem LkAt.c {w : World} {L : Nat} {p b : Int} {bad : Bool} (h : LkAt w L p b bad) :
    w.cell? ⟨L, 0, none⟩ = some (.int .i64 p) ∧ w.cell? ⟨L, 1, none⟩ = some (.int .i64 b) ∧ w.cell? ⟨L, 2, none⟩ = some (.bool bad) ∧ w.frozen? ⟨L, 0, none⟩ = false ∧ w.frozen? ⟨L, 1, none⟩ = false ∧ w.frozen? ⟨L, 2, none⟩ = false := by
  unfold LkAt at h
  refine ⟨?_, ?_, ?_, ?_, ?_, ?_⟩ <;> simp [World.cell?, World.frozen?, h]
theorem LkAt.lt {w : World} {L : Nat} {p b : Int} {bad : Bool} (h : LkAt w L p b bad) : L < w.heap.size := (Array.getElem?_eq_some_iff.1 h).1
theorem LkAt.set0 {w : World} {L : Nat} {p b : Int} {bad : Bool} (h : LkAt w L p b bad) (q : Int) : LkAt (w.setCell ⟨L, 0, none⟩ (.int .i64 q)) L q b bad := by
  unfold LkAt at *; simp [World.setCell, Array.getElem?_modify, h]
theorem LkAt.set1 {w : World} {L : Nat} {p b : Int} {bad : Bool} (h : LkAt w L p b bad) (q : Int) : LkAt (w.setCell ⟨L, 1, none⟩ (.int .i64 q)) L p q bad := by
  unfold LkAt at *; simp [World.setCell, Array.getElem?_modify, h]
theorem LkAt.set2 {w : World} {L : Nat} {p b : Int} {bad : Bool} (h : LkAt w L p b bad) (q : Bool) : LkAt (w.setCell ⟨L, 2, none⟩ (.bool q)) L p b q := by
  unfold LkAt at *; simp [World.setCell, Array.getElem?_modify, h]
theorem LkAt.keep {w w' : World} {L : Nat} {p b : Int} {bad : Bool} (h : LkAt w L p b bad) (hb : Below w.heap.size w w') : LkAt w' L p b bad := (hb.block L h.lt).trans h

def RW (w : World) (L : Nat) (p b : Int) (bad : Bool) (e : Ending) (w' : World) : Prop := e = .returned (.tuple #[]) ∧ LkAt w' L p b bad ∧ Mods L w w'
set_option maxRecDepth 100000 in
set_option maxHeartbeats 400000 in
theorem want_any (L : Nat) (p b : Int) (bad ok : Bool) (w : World) (h : LkAt w L p b bad) :
    Calls Tryz.prog 64 #[.pointer (some ⟨L, 0, none⟩), .bool ok] w (RW w L p b (bad || !ok)) := by
  obtain ⟨c0, c1, c2, f0, f1, f2⟩ := h.c
  cases bad
  · go_enter Tryz.func64, Tryz.ntmps64
    go_wp2
    go_end0
    exact ⟨rfl, h.set2 _, Mods.set _ _ _ _⟩
  · go_enter Tryz.func64, Tryz.ntmps64
    go_wp2
    go_end0
    exact ⟨rfl, h.set2 _, Mods.set _ _ _ _⟩
/-- The counts are within bounds while nothing is bad. -/
def LkOK (p b : Int) (bad : Bool) : Prop := bad = false → 0 ≤ p ∧ p ≤ 400 ∧ 0 ≤ b ∧ b ≤ 2000
def RP (w : World) (L : Nat) (p b : Int) (bad : Bool) (e : Ending) (w' : World) : Prop :=
  ∃ p' bad', e = .returned (.bool (!bad')) ∧ LkAt w' L p' b bad' ∧ Mods L w w' ∧ Hid (LkOK p' b bad' ∧ (bad' = false → bad = false ∧ p' = p + 1))
set_option maxRecDepth 100000 in
set_option maxHeartbeats 1000000 in
theorem part_any (L : Nat) (p b : Int) (bad : Bool) (deep : Int) (w : World) (h : LkAt w L p b bad) (hok : LkOK p b bad) :
    Calls Tryz.prog 63 #[.pointer (some ⟨L, 0, none⟩), .int .i64 deep] w (RP w L p b bad) := by
  obtain ⟨c0, c1, c2, f0, f1, f2⟩ := h.c
  obtain ⟨q, hq⟩ : ∃ q, wrap64 (p + 1) = q := ⟨_, rfl⟩
  have hok2 : Hid (bad = false → q = p + 1 ∧ 0 ≤ p ∧ p ≤ 400 ∧ 0 ≤ b ∧ b ≤ 2000) := fun e => by
    obtain ⟨a1, a2, a3, a4⟩ := hok e
    refine ⟨?_, a1, a2, a3, a4⟩
    rw [← hq]; unfold wrap64; omega
  have h2 := h.set0 q
  obtain ⟨d0, d1, d2, g0, g1, g2⟩ := h2.c
  have hm := Mods.set L 0 (.int .i64 q) w
  have HOK := Lib.hid hok; clear hok
  go_enter Tryz.func63, Tryz.ntmps63
  go_wp2_with (refine (want_any L q b bad _ _ h2).mono ?_; rintro e w3 ⟨rfl, hl3, hm3⟩; obtain ⟨x0, x1, x2, y0, y1, y2⟩ := hl3.c)
  all_goals (go_ret; refine ⟨q, _, (by simp), hl3, hm.trans hm3, Lib.hid ⟨fun e => ?_, fun e => ?_⟩⟩)
  all_goals (have e1 : bad = false := by cases bad <;> simp at e ⊢)
  all_goals (have e2 := hok2.out e1)
  all_goals obtain ⟨e3, e4, e5, e6, e7⟩ := e2
  all_goals first | exact ⟨e1, e3⟩ | exact ⟨by omega, by omega, by omega, by omega⟩ | (exfalso; simp at e; done)

/-- What a string is: not too long. -/
def RS (w : World) (L : Nat) (p _b : Int) (bad : Bool) (s : ByteArray) (e : Ending) (w' : World) : Prop :=
  ∃ b' bad', e = .returned (.tuple #[]) ∧ LkAt w' L p b' bad' ∧ Mods L w w' ∧ Hid (LkOK p b' bad' ∧ (bad' = false → bad = false ∧ s.size ≤ 2000))
theorem Tabs.keep {w w' : World} (h : Tabs w) {L : Nat} (hm : Mods L w w') (hL : 2 ≤ L) : Tabs w' := by
  unfold Tabs Lib.Utf8Tabs at *
  have lt : ∀ {a : Addr} {v : Value}, w.cell? a = some v → a.block < w.heap.size := fun {a v} hc => by
    rcases Nat.lt_or_ge a.block w.heap.size with h' | h'
    · exact h'
    · simp [World.cell?, Array.getElem?_eq_none h'] at hc
  exact ⟨fun c hc => (hm.cell (lt (h.1 c hc)) (by show 0 ≠ L; omega)).trans (h.1 c hc), fun i hi => ⟨(hm.cell (lt (h.2 i hi).1) (by show 1 ≠ L; omega)).trans (h.2 i hi).1, (hm.cell (lt (h.2 i hi).2) (by show 1 ≠ L; omega)).trans (h.2 i hi).2⟩⟩
set_option maxRecDepth 100000 in
set_option maxHeartbeats 1000000 in
theorem str_any (L : Nat) (p b : Int) (bad : Bool) (s : ByteArray) (w : World) (h : LkAt w L p b bad) (hok : LkOK p b bad) (hs : s.size ≤ 140737488351232) (hT : Tabs w) (hL : 2 ≤ L) :
    Calls Tryz.prog 65 #[.pointer (some ⟨L, 0, none⟩), .string s] w (RS w L p b bad s) := by
  obtain ⟨c0, c1, c2, f0, f1, f2⟩ := h.c
  obtain ⟨q, hq⟩ : ∃ q, wrap64 (b + s.size) = q := ⟨_, rfl⟩
  have hok2 : Hid (bad = false → q ≤ 2000 → 0 ≤ p ∧ p ≤ 400 ∧ 0 ≤ q ∧ s.size ≤ 2000) := fun e g => by
    obtain ⟨a1, a2, a3, a4⟩ := hok e
    rw [← hq] at g ⊢; unfold wrap64 at g ⊢; omega
  have h2 := h.set1 q
  obtain ⟨d0, d1, d2, g0, g1, g2⟩ := h2.c
  have hm := Mods.set L 1 (.int .i64 q) w
  have hv : Calls Tryz.prog 108 #[.string s] (w.setCell ⟨L, 1, none⟩ (.int .i64 q)) _ := Any.utf8_ValidString Tryz.laysValid s _ (by omega) (hT.keep hm hL)
  generalize Lib.validD s.data.toList = v at hv
  have HOK := Lib.hid hok; have HT := Lib.hid hT; clear hok hT
  by_cases hq2 : q ≤ 2000
  · go_enter Tryz.func65, Tryz.ntmps65
    go_wp2_with (first | (go_at_call 108; refine hv.mono ?_; rintro e w3 ⟨rfl, hb3⟩; have h3 := h2.keep hb3) | (go_at_call 64; refine (want_any L p q bad _ _ h3).mono ?_; rintro e w4 ⟨rfl, hl4, hm4⟩))
    go_end0
    exact ⟨q, _, rfl, hl4, (hm.trans (Mods.of_below hb3)).trans hm4, Lib.hid ⟨fun e => by
      have e1 : bad = false := by cases bad <;> simp at e ⊢
      have := hok2.out e1 hq2
      exact ⟨this.1, this.2.1, this.2.2.1, hq2⟩, fun e => by
      have e1 : bad = false := by cases bad <;> simp at e ⊢
      exact ⟨e1, (hok2.out e1 hq2).2.2.2⟩⟩⟩
  · go_enter Tryz.func65, Tryz.ntmps65
    go_wp2_with (refine (want_any L p q bad _ _ h2).mono ?_; rintro e w4 ⟨rfl, hl4, hm4⟩)
    go_end0
    exact ⟨q, _, rfl, hl4, hm.trans hm4, Lib.hid ⟨fun e => by simp at e, fun e => by simp at e⟩⟩
end Go.Proofs.YtaockngppbeanaaGreatDoor
