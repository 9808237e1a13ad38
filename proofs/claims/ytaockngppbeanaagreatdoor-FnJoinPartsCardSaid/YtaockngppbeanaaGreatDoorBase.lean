/- The words of both proofs: what an impl.Value is, where it lies in memory, and what it is for a part of memory to stay as it was. No condition. -/
import Derived.Test.YtaockngppbeanaaGreatDoorProg
import Derived.WalkKit
import Derived.WalkSpells
import Derived.WalkLawsBesides
import Derived.Lib.Hide
namespace Go.Proofs.YtaockngppbeanaaGreatDoor
open Go.RowKit

/-- An impl.Value as data. -/
inductive JV where
  | mk (kind half : Int) (text : ByteArray) (list : List JV) (keys : List ByteArray) (vals : List JV)

def JV.kind : JV → Int | .mk k _ _ _ _ _ => k
def JV.half : JV → Int | .mk _ h _ _ _ _ => h
def JV.text : JV → ByteArray | .mk _ _ t _ _ _ => t
def JV.list : JV → List JV | .mk _ _ _ l _ _ => l
def JV.keys : JV → List ByteArray | .mk _ _ _ _ k _ => k
def JV.vals : JV → List JV | .mk _ _ _ _ _ v => v

/-- The six cells of an impl.Value. -/
structure VC where
  kind : Int
  half : Int
  text : ByteArray
  la : Option Addr
  ln : Nat
  lc : Nat
  ka : Option Addr
  kn : Nat
  kc : Nat
  va : Option Addr
  vn : Nat
  vc : Nat
abbrev VC.val (x : VC) : Value := .agg #[.int .i64 x.kind, .int .i64 x.half, .string x.text, .slice x.la x.ln x.lc, .slice x.ka x.kn x.kc, .slice x.va x.vn x.vc]

/-- Six cells hold a value. -/
structure At6 (w : World) (b o : Nat) (x : VC) : Prop where
  c0 : w.cell? ⟨b, o, none⟩ = some (.int .i64 x.kind)
  c1 : w.cell? ⟨b, o + 1, none⟩ = some (.int .i64 x.half)
  c2 : w.cell? ⟨b, o + 2, none⟩ = some (.string x.text)
  c3 : w.cell? ⟨b, o + 3, none⟩ = some (.slice x.la x.ln x.lc)
  c4 : w.cell? ⟨b, o + 4, none⟩ = some (.slice x.ka x.kn x.kc)
  c5 : w.cell? ⟨b, o + 5, none⟩ = some (.slice x.va x.vn x.vc)

/-- A slice's n values. -/
def Row6 (w : World) (B : Nat) (a : Option Addr) (n : Nat) (L : Nat → VC) : Prop :=
  n = 0 ∨ ∃ b off, a = some ⟨b, off, none⟩ ∧ b < B ∧ ∀ i, i < n → At6 w b (off + i * 6) (L i)

/-- A slice's n cells. -/
def Row1 (w : World) (B : Nat) (a : Option Addr) (n : Nat) (C : Nat → Value) : Prop :=
  n = 0 ∨ ∃ b off, a = some ⟨b, off, none⟩ ∧ b < B ∧ ∀ i, i < n → w.cell? ⟨b, off + i, none⟩ = some (C i)

/-- Where a value lies: all of it in blocks below B. -/
inductive VRep (w : World) (B : Nat) : VC → JV → Prop
  | mk (x : VC) (ls : List JV) (ks : List ByteArray) (vs : List JV) (L V : Nat → VC)
    (hn1 : x.ln = ls.length) (hn2 : x.kn = ks.length) (hn3 : x.vn = vs.length)
    (hb1 : x.ln ≤ 9223372036854775807) (hb2 : x.kn ≤ 9223372036854775807) (hb3 : x.vn ≤ 9223372036854775807)
    (hc1 : x.ln ≤ x.lc) (hc2 : x.kn ≤ x.kc) (hc3 : x.vn ≤ x.vc)
    (hc4 : x.lc ≤ 9223372036854775807) (hc5 : x.kc ≤ 9223372036854775807) (hc6 : x.vc ≤ 9223372036854775807)
    (ht : x.text.size ≤ 140737488351232)
    (hk : -9223372036854775808 ≤ x.kind ∧ x.kind ≤ 9223372036854775807) (hh : -9223372036854775808 ≤ x.half ∧ x.half ≤ 9223372036854775807)
    (hs : ∀ i, i < ks.length → (ks.getD i ByteArray.empty).size ≤ 140737488351232)
    (r1 : Row6 w B x.la x.ln L) (r2 : Row1 w B x.ka x.kn fun i => .string (ks.getD i ByteArray.empty)) (r3 : Row6 w B x.va x.vn V)
    (h1 : ∀ i (h : i < ls.length), VRep w B (L i) ls[i]) (h3 : ∀ i (h : i < vs.length), VRep w B (V i) vs[i]) :
    VRep w B x ⟨x.kind, x.half, x.text, ls, ks, vs⟩

/-- Less, as Go orders strings. -/
def lessB (a b : ByteArray) : Prop := Op.bytesLess a.toList b.toList = true

/-- What the reference calls a right value. -/
inductive Right : JV → Prop
  | mk (k h : Int) (t : ByteArray) (ls : List JV) (ks : List ByteArray) (vs : List JV)
    (k0 : 0 ≤ k) (k6 : k ≤ 6) (z1 : k = 3 ∨ h = 0) (z2 : k = 4 ∨ t.size = 0) (z3 : k = 5 ∨ ls = []) (z4 : k = 6 ∨ ks = []) (z5 : ks.length = vs.length)
    (b1 : -18014398509481984 ≤ h) (b2 : h ≤ 18014398509481984) (b3 : h % 2 = 0 ∨ (-9007199254740992 < h ∧ h < 9007199254740992))
    (st : t.size ≤ 2000) (sl : ls.length ≤ 400) (sv : vs.length ≤ 400) (sk : ∀ s ∈ ks, s.size ≤ 2000)
    (ord : ∀ i, i + 1 < ks.length → lessB (ks.getD i ByteArray.empty) (ks.getD (i + 1) ByteArray.empty))
    (r1 : ∀ x ∈ ls, Right x) (r3 : ∀ x ∈ vs, Right x) : Right ⟨k, h, t, ls, ks, vs⟩

theorem At6.keep {w w' : World} {b o : Nat} {x : VC} {B : Nat} (h : At6 w b o x) (hb : Below B w w') (hB : b < B) : At6 w' b o x :=
  ⟨(hb.cell (p := ⟨b, o, none⟩) hB).trans h.c0, (hb.cell (p := ⟨b, o + 1, none⟩) hB).trans h.c1, (hb.cell (p := ⟨b, o + 2, none⟩) hB).trans h.c2,
   (hb.cell (p := ⟨b, o + 3, none⟩) hB).trans h.c3, (hb.cell (p := ⟨b, o + 4, none⟩) hB).trans h.c4, (hb.cell (p := ⟨b, o + 5, none⟩) hB).trans h.c5⟩

theorem Row6.keep {w w' : World} {B B' n : Nat} {a : Option Addr} {L : Nat → VC} (h : Row6 w B a n L) (hb : Below B w w') (hB : B ≤ B') : Row6 w' B' a n L := by
  rcases h with h | ⟨b, off, ha, hlt, hc⟩
  · exact Or.inl h
  · exact Or.inr ⟨b, off, ha, by omega, fun i hi => (hc i hi).keep hb hlt⟩

theorem Row1.keep {w w' : World} {B B' n : Nat} {a : Option Addr} {C : Nat → Value} (h : Row1 w B a n C) (hb : Below B w w') (hB : B ≤ B') : Row1 w' B' a n C := by
  rcases h with h | ⟨b, off, ha, hlt, hc⟩
  · exact Or.inl h
  · exact Or.inr ⟨b, off, ha, by omega, fun i hi => (hb.cell (p := ⟨b, off + i, none⟩) hlt).trans (hc i hi)⟩

theorem VRep.keep {w w' : World} {B B' : Nat} {x : VC} {j : JV} (h : VRep w B x j) (hb : Below B w w') (hB : B ≤ B') : VRep w' B' x j := by
  induction h with
  | mk x ls ks vs L V hn1 hn2 hn3 hb1 hb2 hb3 hc1 hc2 hc3 hc4 hc5 hc6 ht hk hh hs r1 r2 r3 _ _ ih1 ih3 =>
    exact .mk x ls ks vs L V hn1 hn2 hn3 hb1 hb2 hb3 hc1 hc2 hc3 hc4 hc5 hc6 ht hk hh hs (r1.keep hb hB) (r2.keep hb hB) (r3.keep hb hB) ih1 ih3

theorem JV.lt_list {k h : Int} {t : ByteArray} {ls : List JV} {ks : List ByteArray} {vs : List JV} {i : Nat} (hi : i < ls.length) : SizeOf.sizeOf ls[i] < SizeOf.sizeOf (JV.mk k h t ls ks vs) := by
  have := List.sizeOf_lt_of_mem (List.getElem_mem hi)
  simp; omega
theorem JV.lt_vals {k h : Int} {t : ByteArray} {ls : List JV} {ks : List ByteArray} {vs : List JV} {i : Nat} (hi : i < vs.length) : SizeOf.sizeOf vs[i] < SizeOf.sizeOf (JV.mk k h t ls ks vs) := by
  have := List.sizeOf_lt_of_mem (List.getElem_mem hi)
  simp; omega

theorem bcell {W w1 : World} {B : Nat} (hb : Below B W w1) : (∀ b o, b < B → w1.cell? ⟨b, o, none⟩ = W.cell? ⟨b, o, none⟩) ∧ (∀ b o, b < B → w1.frozen? ⟨b, o, none⟩ = W.frozen? ⟨b, o, none⟩) :=
  ⟨fun b o h => hb.cell (p := ⟨b, o, none⟩) h, fun b o h => hb.frozen (p := ⟨b, o, none⟩) h⟩

/-- A value, boxed. -/
abbrev boxV (w : World) (x : VC) : World := w.alloc (.cells #[.int .i64 x.kind, .int .i64 x.half, .string x.text, .slice x.la x.ln x.lc, .slice x.ka x.kn x.kc, .slice x.va x.vn x.vc] 26)

/-- A call that answers a bool, and only makes memory. -/
def RB (w : World) (p : Bool → Prop) (e : Ending) (w' : World) : Prop := ∃ r, e = .returned (.bool r) ∧ Hid (p r) ∧ Below w.heap.size w w'
/-- A call that answers an int, and only makes memory. -/
def RI (w : World) (p : Int → Prop) (e : Ending) (w' : World) : Prop := ∃ c, e = .returned (.int .i64 c) ∧ Hid (p c) ∧ Below w.heap.size w w'
end Go.Proofs.YtaockngppbeanaaGreatDoor
