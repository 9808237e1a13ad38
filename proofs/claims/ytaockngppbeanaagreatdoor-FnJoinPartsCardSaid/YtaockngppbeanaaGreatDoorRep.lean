/- A value as gojq takes it: where it lies in memory, and that it lies there still where its blocks have not turned. No condition. -/
import Derived.Test.YtaockngppbeanaaGreatDoorHalf
namespace Go.Proofs.YtaockngppbeanaaGreatDoor
open Go.RowKit

/-- The blocks from lo on, below hi, are as they were. -/
def SameOn (lo hi : Nat) (w w' : World) : Prop := ∀ k, lo ≤ k → k < hi → w'.heap[k]? = w.heap[k]?

/-- A slice's n cells, in a block from lo on, below hi. -/
def Row (w : World) (lo hi : Nat) (a : Option Addr) (n : Nat) (C : Nat → Value) : Prop :=
  n = 0 ∨ ∃ b off, a = some ⟨b, off, none⟩ ∧ lo ≤ b ∧ b < hi ∧ ∀ i, i < n → w.cell? ⟨b, off + i, none⟩ = some (C i)

/-- The entries of a map that was filled key by key. -/
def ents (ks : List ByteArray) (V : Nat → Value) (n : Nat) : Array MapEntry := ((List.range n).map fun i => { key := Value.string (ks.getD i ByteArray.empty), val := V i, born := i : MapEntry }).toArray

inductive GRep (w : World) (lo hi : Nat) : Value → JV → Prop
  | null : GRep w lo hi .nilIface ⟨0, 0, ByteArray.empty, [], [], []⟩
  | fls : GRep w lo hi (.iface 4 (.bool false)) ⟨1, 0, ByteArray.empty, [], [], []⟩
  | tru : GRep w lo hi (.iface 4 (.bool true)) ⟨2, 0, ByteArray.empty, [], [], []⟩
  | int (n : Int) (h1 : -9007199254740992 ≤ n) (h2 : n ≤ 9007199254740992) : GRep w lo hi (.iface 3 (.int .i64 n)) ⟨3, 2 * n, ByteArray.empty, [], [], []⟩
  | flt (h : Int) (b : Nat) (hb : IsHalf b h) (ho : h % 2 = 1) : GRep w lo hi (.iface 70 (.float .f64 b)) ⟨3, h, ByteArray.empty, [], [], []⟩
  | text (s : ByteArray) (hs : s.size ≤ 2000) : GRep w lo hi (.iface 9 (.string s)) ⟨4, 0, s, [], [], []⟩
  | list (a : Option Addr) (c : Nat) (C : Nat → Value) (ls : List JV) (hl : ls.length ≤ c) (hc : c ≤ 140737488355328) (hr : Row w lo hi a ls.length C) (h1 : ∀ i (h : i < ls.length), GRep w lo hi (C i) ls[i]) :
      GRep w lo hi (.iface 71 (.slice a ls.length c)) ⟨5, 0, ByteArray.empty, ls, [], []⟩
  | map (r : Nat) (ks : List ByteArray) (vs : List JV) (V : Nat → Value) (hlo : lo ≤ r) (hhi : r < hi) (hm : w.heap[r]? = some (.map (ents ks V ks.length) ks.length)) (hl : ks.length = vs.length) (h4 : ks.length ≤ 400)
      (ord : ∀ i, i + 1 < ks.length → lessB (ks.getD i ByteArray.empty) (ks.getD (i + 1) ByteArray.empty)) (sk : ∀ s ∈ ks, s.size ≤ 2000) (h1 : ∀ i (h : i < vs.length), GRep w lo hi (V i) vs[i]) :
      GRep w lo hi (.iface 74 (.map (some r))) ⟨6, 0, ByteArray.empty, [], ks, vs⟩

theorem Row.keep {w w' : World} {lo hi lo' hi' n : Nat} {a : Option Addr} {C : Nat → Value} (h : Row w lo hi a n C) (hs : SameOn lo hi w w') (h1 : lo' ≤ lo) (h2 : hi ≤ hi') : Row w' lo' hi' a n C := by
  rcases h with h | ⟨b, off, ha, hl, hh, hc⟩
  · exact Or.inl h
  · exact Or.inr ⟨b, off, ha, by omega, by omega, fun i hi => (World.cell?_of_block (w := w) (hs b hl hh)).trans (hc i hi)⟩

theorem GRep.keep {w w' : World} {lo hi lo' hi' : Nat} {v : Value} {j : JV} (h : GRep w lo hi v j) (hs : SameOn lo hi w w') (h1 : lo' ≤ lo) (h2 : hi ≤ hi') : GRep w' lo' hi' v j := by
  induction h with
  | null => exact .null
  | fls => exact .fls
  | tru => exact .tru
  | int n a b => exact .int n a b
  | flt h b hb ho => exact .flt h b hb ho
  | text s hs => exact .text s hs
  | list a c C ls hl hc hr _ ih => exact .list a c C ls hl hc (hr.keep hs h1 h2) ih
  | map r ks vs V hlo hhi hm hl h4 ord sk _ ih => exact .map r ks vs V (by omega) (by omega) ((hs r hlo hhi).trans hm) hl h4 ord sk ih

theorem GRep.iface {w : World} {lo hi : Nat} {v : Value} {j : JV} (h : GRep w lo hi v j) : v = .nilIface ∨ ∃ t x, v = .iface t x := by
  cases h <;> simp

theorem SameOn.of_below {B lo hi : Nat} {w w' : World} (h : Below B w w') (hh : hi ≤ B) : SameOn lo hi w w' := fun k _ hk => h.block k (by omega)
theorem SameOn.refl (lo hi : Nat) (w : World) : SameOn lo hi w w := fun _ _ _ => rfl
theorem SameOn.trans {lo hi : Nat} {a b c : World} (h : SameOn lo hi a b) (k : SameOn lo hi b c) : SameOn lo hi a c := fun i h1 h2 => (k i h1 h2).trans (h i h1 h2)
theorem SameOn.setCell {lo hi : Nat} (w : World) (p : Addr) (v : Value) (hp : p.block < lo ∨ hi ≤ p.block) : SameOn lo hi w (w.setCell p v) := fun k h1 h2 => Below.heap_setCell _ _ _ _ (by omega)
theorem SameOn.putObj {lo hi : Nat} (w : World) (r : Nat) (o : Obj) (hp : r < lo ∨ hi ≤ r) : SameOn lo hi w { w with heap := w.heap.setIfInBounds r o } := fun k h1 h2 => by
  show (w.heap.setIfInBounds r o)[k]? = _
  rw [Array.getElem?_setIfInBounds_ne (by omega)]

/-- What toGo gives. -/
def RG (w : World) (j : JV) (e : Ending) (w' : World) : Prop := ∃ v, e = .returned (.tuple #[v, .bool true]) ∧ GRep w' w.heap.size w'.heap.size v j ∧ Below w.heap.size w w'
end Go.Proofs.YtaockngppbeanaaGreatDoor
