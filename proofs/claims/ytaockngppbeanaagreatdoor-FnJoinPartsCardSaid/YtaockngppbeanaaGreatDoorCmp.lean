/- The reference says how two values compare: spec.sign, texts, keys, lists, Cmp and Same. Two right values: 0 where they are the same. -/
import Derived.Test.YtaockngppbeanaaGreatDoorBase
import Derived.StillTailTactics
namespace Go.Proofs.YtaockngppbeanaaGreatDoor
open Go.RowKit
theorem toList_inj {a b : ByteArray} (h : a.toList = b.toList) : a = b := by
  rw [ByteArray.toList_eq, ByteArray.toList_eq] at h
  exact Go.WideShapes.bytes_inj h
theorem less_irrefl : ∀ l : List UInt8, Op.bytesLess l l = false
  | [] => rfl
  | a :: l => by simp [Op.bytesLess, less_irrefl l]
set_option maxHeartbeats 400000 in
theorem sign_any (c : Int) (w : World) : Calls Tryz.prog 96 #[.int .i64 c] w (RI w fun r => (r = 0 ↔ c = 0) ∧ -1 ≤ r ∧ r ≤ 1) := by
  go_enter Tryz.func96, Tryz.ntmps96
  go_wp2
  all_goals (go_ret; exact ⟨_, rfl, Lib.hid (by omega), Below.refl _ _⟩)
set_option maxHeartbeats 400000 in
theorem texts_any (a b : ByteArray) (w : World) : Calls Tryz.prog 97 #[.string a, .string b] w (RI w fun r => (r = 0 ↔ a = b) ∧ -1 ≤ r ∧ r ≤ 1) := by
  go_enter Tryz.func97, Tryz.ntmps97
  go_wp2
  · have h : Op.bytesLess a.toList b.toList = true := by assumption
    go_ret; exact ⟨_, rfl, Lib.hid ⟨⟨by omega, fun e => by subst e; simp [less_irrefl] at h⟩, by omega, by omega⟩, Below.refl _ _⟩
  · have h : (!a.toList == b.toList) = true := by assumption
    go_ret; exact ⟨_, rfl, Lib.hid ⟨⟨by omega, fun e => by subst e; simp at h⟩, by omega, by omega⟩, Below.refl _ _⟩
  · have h : (!a.toList == b.toList) = false := by assumption
    go_ret; exact ⟨_, rfl, Lib.hid ⟨⟨fun _ => toList_inj (by simpa using h), fun _ => rfl⟩, by omega, by omega⟩, Below.refl _ _⟩

set_option maxRecDepth 100000 in
set_option maxHeartbeats 1000000 in
theorem lists_walk (R : Nat → Prop) (a c : Option Addr) (an ac cn cc : Nat) (L V : Nat → VC) (B : Nat) (w : World) (hB : B ≤ w.heap.size)
    (ha1 : an ≤ 9223372036854775807) (hc1 : cn ≤ 9223372036854775807)
    (r1 : Row6 w B a an L) (r2 : Row6 w B c cn V)
    (hcall : ∀ (k : Nat) (wr : World), k < an → k < cn → Below w.heap.size w wr → Calls Tryz.prog 57 #[(L k).val, (V k).val] wr (RI wr fun r => (r = 0 ↔ R k) ∧ -1 ≤ r ∧ r ≤ 1)) :
    Calls Tryz.prog 88 #[.slice a an ac, .slice c cn cc] w (RI w fun r => (r = 0 ↔ an = cn ∧ ∀ k, k < an → R k) ∧ -9223372036854775807 ≤ r ∧ r ≤ 9223372036854775807) := by
  go_enter Tryz.func88, Tryz.ntmps88
  go_wp2_with fail
  go_loopw [5] (fun i wr => ∃ k : Nat, k ≤ an ∧ k ≤ cn ∧ i = .int .i64 k ∧ Below w.heap.size w wr ∧ ∀ q, q < k → R q) (fun i _ => an - (intOf i).toNat)
  case atStart => exact ⟨0, Nat.zero_le _, Nat.zero_le _, rfl, Below.refl _ _, fun q hq => by omega⟩
  case round =>
    obtain ⟨k, hk, hk2, rfl, hb, hall⟩ := hrel
    have HA := Lib.hid hall
    clear hall
    have hsz := hb.size
    by_cases hlt : k < an
    · by_cases hlt2 : k < cn
      · rcases r1 with r1 | ⟨b, off, ha, hlb, r1⟩
        · omega
        rcases r2 with r2 | ⟨b2, off2, ha2, hlb2, r2⟩
        · omega
        obtain ⟨c0, c1, c2, c3, c4, c5⟩ := ((r1 k hlt).keep (w' := wr) hb (by omega))
        obtain ⟨d0, d1, d2, d3, d4, d5⟩ := ((r2 k hlt2).keep (w' := wr) hb (by omega))
        have hcal := hcall k
        clear hcall
        go_wp2_with fail
        go_still_tail 8, (by kernel_rfl)
        change wpList _ _ _ _ _ wr.drew
        have hbd : Below w.heap.size w wr.drew := hb.drew
        generalize wr.drew = w2 at hbd ⊢
        clear c0 c1 c2 c3 c4 c5 d0 d1 d2 d3 d4 d5 hb hsz
        go_wp2_with (refine (hcal _ hlt hlt2 hbd).mono ?_; rintro e w3 ⟨r, rfl, hr, hb3⟩)
        · have h0 : (r != 0) = true := by assumption
          go_ret
          exact ⟨_, rfl, Lib.hid ⟨⟨fun h => by subst h; simp at h0, fun h => by have := hr.out.1.2 (h.2 k hlt); subst this; simp at h0⟩, by have := hr.out.2; omega, by have := hr.out.2; omega⟩, hbd.trans (hb3.mono hbd.size)⟩
        · have h1 : (r != 0) = false := by assumption
          have h0 : r = 0 := by simpa using h1
          have hRk := hr.out.1.1 h0
          subst h0
          go_roundw
          case rel => ((repeat apply Exists.intro); exact ⟨⟨k + 1, by omega, by omega, by go_num, hbd.trans (hb3.mono hbd.size), fun q hq => by
            by_cases e : q = k
            · subst e; exact hRk
            · exact HA.out q (by omega)⟩, by rw [ha, ha2]; rfl⟩)
          case measure => simp [intOf]; omega
      · go_wp2_with fail
        go_ret
        exact ⟨_, rfl, Lib.hid ⟨⟨fun h => by omega, fun h => by omega⟩, by omega, by omega⟩, hb⟩
    · go_wp2_with fail
      go_ret
      exact ⟨_, rfl, Lib.hid ⟨⟨fun h => ⟨by omega, fun q hq => HA.out q (by omega)⟩, fun h => by omega⟩, by omega, by omega⟩, hb⟩
set_option maxRecDepth 100000 in
set_option maxHeartbeats 1000000 in
theorem keys_walk (a c : Option Addr) (an ac cn cc : Nat) (L V : Nat → ByteArray) (B : Nat) (w : World) (hB : B ≤ w.heap.size)
    (ha1 : an ≤ 9223372036854775807) (hc1 : cn ≤ 9223372036854775807)
    (r1 : Row1 w B a an fun i => .string (L i)) (r2 : Row1 w B c cn fun i => .string (V i)) :
    Calls Tryz.prog 98 #[.slice a an ac, .slice c cn cc] w (RI w fun r => (r = 0 ↔ an = cn ∧ ∀ k, k < an → L k = V k) ∧ -9223372036854775807 ≤ r ∧ r ≤ 9223372036854775807) := by
  go_enter Tryz.func98, Tryz.ntmps98
  go_wp2_with fail
  go_loopw [5] (fun i wr => ∃ k : Nat, k ≤ an ∧ k ≤ cn ∧ i = .int .i64 k ∧ Below w.heap.size w wr ∧ ∀ q, q < k → L q = V q) (fun i _ => an - (intOf i).toNat)
  case atStart => exact ⟨0, Nat.zero_le _, Nat.zero_le _, rfl, Below.refl _ _, fun q hq => by omega⟩
  case round =>
    obtain ⟨k, hk, hk2, rfl, hb, hall⟩ := hrel
    have HA := Lib.hid hall
    clear hall
    have hsz := hb.size
    by_cases hlt : k < an
    · by_cases hlt2 : k < cn
      · rcases r1 with r1 | ⟨b, off, ha, hlb, r1⟩
        · omega
        rcases r2 with r2 | ⟨b2, off2, ha2, hlb2, r2⟩
        · omega
        have c0 := (hb.cell (p := ⟨b, off + k, none⟩) (by show b < _; omega)).trans (r1 k hlt)
        have d0 := (hb.cell (p := ⟨b2, off2 + k, none⟩) (by show b2 < _; omega)).trans (r2 k hlt2)
        go_wp2_with fail
        go_still_tail 8, (by kernel_rfl)
        change wpList _ _ _ _ _ wr.drew
        have hbd : Below w.heap.size w wr.drew := hb.drew
        generalize wr.drew = w2 at hbd ⊢
        clear c0 d0 hb hsz
        go_wp2_with (refine (texts_any _ _ _).mono ?_; rintro e w3 ⟨r, rfl, hr, hb3⟩)
        · have h0 : (r != 0) = true := by assumption
          go_ret
          exact ⟨_, rfl, Lib.hid ⟨⟨fun h => by subst h; simp at h0, fun h => by have := hr.out.1.2 (h.2 k hlt); subst this; simp at h0⟩, by have := hr.out.2; omega, by have := hr.out.2; omega⟩, hbd.trans (hb3.mono hbd.size)⟩
        · have h1 : (r != 0) = false := by assumption
          have h0 : r = 0 := by simpa using h1
          have hRk := hr.out.1.1 h0
          subst h0
          go_roundw
          case rel => ((repeat apply Exists.intro); exact ⟨⟨k + 1, by omega, by omega, by go_num, hbd.trans (hb3.mono hbd.size), fun q hq => by
            by_cases e : q = k
            · subst e; exact hRk
            · exact HA.out q (by omega)⟩, by rw [ha, ha2]; rfl⟩)
          case measure => simp [intOf]; omega
      · go_wp2_with fail
        go_ret
        exact ⟨_, rfl, Lib.hid ⟨⟨fun h => by omega, fun h => by omega⟩, by omega, by omega⟩, hb⟩
    · go_wp2_with fail
      go_ret
      exact ⟨_, rfl, Lib.hid ⟨⟨fun h => ⟨by omega, fun q hq => HA.out q (by omega)⟩, fun h => by omega⟩, by omega, by omega⟩, hb⟩

theorem empty_of_size {t : ByteArray} (h : t.size = 0) : t = ByteArray.empty := by
  have : t.data = #[] := Array.eq_empty_of_size_eq_zero h
  cases t; simp_all

theorem ext_of {α : Type} {l r : List α} {m n : Nat} (h1 : m = l.length) (h2 : n = r.length) : (m = n ∧ ∀ k, k < m → l[k]? = r[k]?) ↔ l = r := by
  subst h1; subst h2
  constructor
  · intro ⟨h, g⟩
    apply List.ext_getElem?
    intro i
    by_cases hi : i < l.length
    · exact g i hi
    · rw [List.getElem?_eq_none (by omega), List.getElem?_eq_none (by omega)]
  · intro h; subst h; exact ⟨rfl, fun _ _ => rfl⟩

theorem extD_of {l r : List ByteArray} {m n : Nat} (h1 : m = l.length) (h2 : n = r.length) : (m = n ∧ ∀ k, k < m → l.getD k ByteArray.empty = r.getD k ByteArray.empty) ↔ l = r := by
  rw [← ext_of h1 h2]
  subst h1; subst h2
  constructor
  · intro ⟨h, g⟩
    refine ⟨h, fun k hk => ?_⟩
    have := g k hk
    simp only [List.getD_eq_getElem?_getD] at this
    rw [List.getElem?_eq_getElem hk, List.getElem?_eq_getElem (by omega)] at this ⊢
    simpa using this
  · intro ⟨h, g⟩
    exact ⟨h, fun k hk => by simp only [List.getD_eq_getElem?_getD, g k hk]⟩

/-- What Cmp asks of a value: a right one without the bounds on lengths, and without the order of the keys. -/
inductive Tidy : JV → Prop
  | mk (k h : Int) (t : ByteArray) (ls : List JV) (ks : List ByteArray) (vs : List JV)
    (k0 : 0 ≤ k) (k6 : k ≤ 6) (z1 : k = 3 ∨ h = 0) (z2 : k = 4 ∨ t.size = 0) (z3 : k = 5 ∨ ls = []) (z4 : k = 6 ∨ ks = []) (z5 : ks.length = vs.length)
    (b1 : -18014398509481984 ≤ h) (b2 : h ≤ 18014398509481984)
    (r1 : ∀ x ∈ ls, Tidy x) (r3 : ∀ x ∈ vs, Tidy x) : Tidy ⟨k, h, t, ls, ks, vs⟩
theorem Right.tidy {j : JV} (h : Right j) : Tidy j := by
  induction h with
  | mk k h t ls ks vs k0 k6 z1 z2 z3 z4 z5 b1 b2 b3 st sl sv sk ord r1 r3 i1 i3 => exact .mk k h t ls ks vs k0 k6 z1 z2 z3 z4 z5 b1 b2 i1 i3

set_option maxRecDepth 100000 in
set_option maxHeartbeats 2000000 in
theorem cmp_any (n : Nat) : ∀ (j1 j2 : JV) (x1 x2 : VC) (B : Nat) (w : World), SizeOf.sizeOf j1 < n → VRep w B x1 j1 → VRep w B x2 j2 → B ≤ w.heap.size → Tidy j1 → Tidy j2 →
    Calls Tryz.prog 57 #[x1.val, x2.val] w (RI w fun r => (r = 0 ↔ j1 = j2) ∧ -1 ≤ r ∧ r ≤ 1) := by
  induction n with
  | zero => intro j1 j2 x1 x2 B w h; omega
  | succ n ih =>
    intro j1 j2 x1 x2 B w hn hrep hrep2 hB hr hr2
    obtain ⟨x1, ls, ks, vs, L, V, hn1, hn2, hn3, hb1, hb2, hb3, _, _, _, _, _, _, ht, hk, hh, hs, r1, r2, r3, h1, h3⟩ := hrep
    obtain ⟨_, _, _, _, _, _, k0, k6, z1, z2, z3, z4, z5, b1, b2, rr1, rr3⟩ := hr
    obtain ⟨x2, ls', ks', vs', L', V', hn1', hn2', hn3', hb1', hb2', hb3', _, _, _, _, _, _, ht', hk', hh', hs', r1', r2', r3', h1', h3'⟩ := hrep2
    obtain ⟨_, _, _, _, _, _, k0', k6', z1', z2', z3', z4', z5', b1', b2', rr1', rr3'⟩ := hr2
    have hl := fun (wr : World) (hb : Below w.heap.size w wr) => lists_walk (fun k => ls[k]? = ls'[k]?) x1.la x2.la x1.ln x1.lc x2.ln x2.lc L L' B wr (Nat.le_trans hB hb.size) hb1 hb1' (r1.keep (hb.mono hB) (Nat.le_refl _)) (r1'.keep (hb.mono hB) (Nat.le_refl _)) (fun k wq hk hk2 hbq => by
      have e1 : ls[k]? = ls'[k]? ↔ ls[k]'(by omega) = ls'[k]'(by omega) := by rw [List.getElem?_eq_getElem (by omega), List.getElem?_eq_getElem (by omega)]; simp
      simp only [e1]
      exact ih _ _ _ _ B wq (by have := JV.lt_list (k := x1.kind) (h := x1.half) (t := x1.text) (ls := ls) (ks := ks) (vs := vs) (i := k) (by omega); omega)
        ((h1 k (by omega)).keep ((hb.trans (hbq.mono hb.size)).mono hB) (Nat.le_refl _)) ((h1' k (by omega)).keep ((hb.trans (hbq.mono hb.size)).mono hB) (Nat.le_refl _)) (Nat.le_trans hB (hb.trans (hbq.mono hb.size)).size) (rr1 _ (List.getElem_mem _)) (rr1' _ (List.getElem_mem _)))
    have hv := fun (wr : World) (hb : Below w.heap.size w wr) => lists_walk (fun k => vs[k]? = vs'[k]?) x1.va x2.va x1.vn x1.vc x2.vn x2.vc V V' B wr (Nat.le_trans hB hb.size) hb3 hb3' (r3.keep (hb.mono hB) (Nat.le_refl _)) (r3'.keep (hb.mono hB) (Nat.le_refl _)) (fun k wq hk hk2 hbq => by
      have e1 : vs[k]? = vs'[k]? ↔ vs[k]'(by omega) = vs'[k]'(by omega) := by rw [List.getElem?_eq_getElem (by omega), List.getElem?_eq_getElem (by omega)]; simp
      simp only [e1]
      exact ih _ _ _ _ B wq (by have := JV.lt_vals (k := x1.kind) (h := x1.half) (t := x1.text) (ls := ls) (ks := ks) (vs := vs) (i := k) (by omega); omega)
        ((h3 k (by omega)).keep ((hb.trans (hbq.mono hb.size)).mono hB) (Nat.le_refl _)) ((h3' k (by omega)).keep ((hb.trans (hbq.mono hb.size)).mono hB) (Nat.le_refl _)) (Nat.le_trans hB (hb.trans (hbq.mono hb.size)).size) (rr3 _ (List.getElem_mem _)) (rr3' _ (List.getElem_mem _)))
    simp only [ext_of hn1 hn1'] at hl
    simp only [ext_of hn3 hn3'] at hv
    have hkk := fun (wr : World) (hb : Below w.heap.size w wr) => keys_walk x1.ka x2.ka x1.kn x1.kc x2.kn x2.kc _ _ B wr (Nat.le_trans hB hb.size) hb2 hb2' (r2.keep (hb.mono hB) (Nat.le_refl _)) (r2'.keep (hb.mono hB) (Nat.le_refl _))
    simp only [extD_of hn2 hn2'] at hkk
    clear ih h1 h3 h1' h3' rr1 rr3 rr1' rr3' r1 r2 r3 r1' r2' r3' hn
    have HB : x1.kind = x2.kind → x1.kind = 3 → -18014398509481984 ≤ x1.half ∧ x1.half ≤ 18014398509481984 ∧ -18014398509481984 ≤ x2.half ∧ x2.half ≤ 18014398509481984 := fun _ _ => ⟨b1, b2, b1', b2'⟩
    obtain ⟨E, hE⟩ : ∃ E : Prop, E = (JV.mk x1.kind x1.half x1.text ls ks vs = JV.mk x2.kind x2.half x2.text ls' ks' vs') := ⟨_, rfl⟩
    rw [← hE]
    have HE : Hid (x1.kind ≠ x2.kind → ¬ E) := fun h e => by rw [hE] at e; simp at e; exact h e.1
    have nil_of : ∀ l : List JV, ([] : List ByteArray).length = l.length → l = [] := fun l h => by cases l <;> simp_all
    have H0 : Hid (x1.kind = x2.kind → x1.kind < 3 → E) := fun h g => by
      rw [hE, ← h]
      have a1 := z1.resolve_left (by omega); have a2 := z2.resolve_left (by omega); have a3 := z3.resolve_left (by omega); have a4 := z4.resolve_left (by omega)
      have c1 := z1'.resolve_left (by omega); have c2 := z2'.resolve_left (by omega); have c3 := z3'.resolve_left (by omega); have c4 := z4'.resolve_left (by omega)
      subst a3 a4 c3 c4
      rw [nil_of _ z5, nil_of _ z5', a1, c1, empty_of_size a2, empty_of_size c2]
    have H3 : Hid (x1.kind = x2.kind → x1.kind = 3 → (E ↔ x1.half = x2.half)) := fun h g => by
      rw [hE, ← h]
      have a2 := z2.resolve_left (by omega); have a3 := z3.resolve_left (by omega); have a4 := z4.resolve_left (by omega)
      have c2 := z2'.resolve_left (by omega); have c3 := z3'.resolve_left (by omega); have c4 := z4'.resolve_left (by omega)
      subst a3 a4 c3 c4
      rw [nil_of _ z5, nil_of _ z5', empty_of_size a2, empty_of_size c2]; simp
    have H4 : Hid (x1.kind = x2.kind → x1.kind = 4 → (E ↔ x1.text = x2.text)) := fun h g => by
      rw [hE, ← h]
      have a1 := z1.resolve_left (by omega); have a3 := z3.resolve_left (by omega); have a4 := z4.resolve_left (by omega)
      have c1 := z1'.resolve_left (by omega); have c3 := z3'.resolve_left (by omega); have c4 := z4'.resolve_left (by omega)
      subst a3 a4 c3 c4
      rw [nil_of _ z5, nil_of _ z5', a1, c1]; simp
    have H5 : Hid (x1.kind = x2.kind → x1.kind = 5 → (E ↔ ls = ls')) := fun h g => by
      rw [hE, ← h]
      have a1 := z1.resolve_left (by omega); have a2 := z2.resolve_left (by omega); have a4 := z4.resolve_left (by omega)
      have c1 := z1'.resolve_left (by omega); have c2 := z2'.resolve_left (by omega); have c4 := z4'.resolve_left (by omega)
      subst a4 c4
      rw [nil_of _ z5, nil_of _ z5', a1, c1, empty_of_size a2, empty_of_size c2]; simp
    have H6 : Hid (x1.kind = x2.kind → x1.kind = 6 → (E ↔ ks = ks' ∧ vs = vs')) := fun h g => by
      rw [hE, ← h]
      have a1 := z1.resolve_left (by omega); have a2 := z2.resolve_left (by omega); have a3 := z3.resolve_left (by omega)
      have c1 := z1'.resolve_left (by omega); have c2 := z2'.resolve_left (by omega); have c3 := z3'.resolve_left (by omega)
      subst a3 c3
      rw [a1, c1, empty_of_size a2, empty_of_size c2]; simp
    clear z1 z2 z3 z4 z5 z1' z2' z3' z4' z5' hn1 hn2 hn3 hn1' hn2' hn3' b1 b2 b1' b2' hh hh' hs hs' hE nil_of
    obtain ⟨k1, f1, t1, la, ln, lc, ka, kn, kc, va, vn, vc⟩ := x1
    obtain ⟨k2, f2, t2, la', ln', lc', ka', kn', kc', va', vn', vc'⟩ := x2
    simp only at *
    have hw2 : ∀ o1 o2, Below w.heap.size w ((w.alloc o1).alloc o2) := fun o1 o2 => ((Below.refl _ _).alloc (Nat.le_refl _) _).alloc (by simp) _
    by_cases hkk2 : k1 = k2
    · subst hkk2
      have hcs : k1 = 0 ∨ k1 = 1 ∨ k1 = 2 ∨ k1 = 3 ∨ k1 = 4 ∨ k1 = 5 ∨ k1 = 6 := by omega
      rcases hcs with rfl | rfl | rfl | rfl | rfl | rfl | rfl
      · clear hl hv hkk HB
        have G := Lib.hid (H0.out rfl (by decide)); clear H0 H3 H4 H5 H6 HE
        go_enter Tryz.func57, Tryz.ntmps57
        go_wp2_with fail
        go_ret
        exact ⟨_, rfl, Lib.hid ⟨⟨fun _ => G.out, fun _ => rfl⟩, by decide, by decide⟩, hw2 _ _⟩
      · clear hl hv hkk HB
        have G := Lib.hid (H0.out rfl (by decide)); clear H0 H3 H4 H5 H6 HE
        go_enter Tryz.func57, Tryz.ntmps57
        go_wp2_with fail
        go_ret
        exact ⟨_, rfl, Lib.hid ⟨⟨fun _ => G.out, fun _ => rfl⟩, by decide, by decide⟩, hw2 _ _⟩
      · clear hl hv hkk HB
        have G := Lib.hid (H0.out rfl (by decide)); clear H0 H3 H4 H5 H6 HE
        go_enter Tryz.func57, Tryz.ntmps57
        go_wp2_with fail
        go_ret
        exact ⟨_, rfl, Lib.hid ⟨⟨fun _ => G.out, fun _ => rfl⟩, by decide, by decide⟩, hw2 _ _⟩
      · clear hl hv hkk
        obtain ⟨b1, b2, b3, b4⟩ := HB rfl rfl
        clear HB
        have G := Lib.hid (H3.out rfl rfl); clear H0 H3 H4 H5 H6 HE
        go_enter Tryz.func57, Tryz.ntmps57
        go_wp2_with (refine (sign_any _ _).mono ?_; rintro e w3 ⟨r, rfl, hr, hb3⟩)
        go_ret
        exact ⟨_, rfl, Lib.hid ⟨by rw [G.out, hr.out.1]; omega, hr.out.2⟩, (hw2 _ _).trans (hb3.mono (by simp; omega))⟩
      · clear hl hv hkk HB
        have G := Lib.hid (H4.out rfl rfl); clear H0 H3 H4 H5 H6 HE
        go_enter Tryz.func57, Tryz.ntmps57
        go_wp2_with (refine (texts_any _ _ _).mono ?_; rintro e w3 ⟨r, rfl, hr, hb3⟩)
        go_ret
        exact ⟨_, rfl, Lib.hid ⟨by rw [G.out, hr.out.1], hr.out.2⟩, (hw2 _ _).trans (hb3.mono (by simp; omega))⟩
      · clear hv hkk HB
        have G := Lib.hid (H5.out rfl rfl); clear H0 H3 H4 H5 H6 HE
        go_enter Tryz.func57, Tryz.ntmps57
        go_wp2_with fail
        refine (hl _ (hw2 _ _)).mono ?_
        rintro e w3 ⟨r, rfl, hr, hb3⟩
        go_wp2_with (refine (sign_any _ _).mono ?_; rintro e w4 ⟨r4, rfl, hr4, hb4⟩)
        go_ret
        exact ⟨_, rfl, Lib.hid ⟨by rw [G.out, hr4.out.1, hr.out.1], hr4.out.2⟩, ((hw2 _ _).trans (hb3.mono (by simp; omega))).trans (hb4.mono (by have := hb3.size; simp at this; omega))⟩
      · clear hl HB
        have G := Lib.hid (H6.out rfl rfl); clear H0 H3 H4 H5 H6 HE
        go_enter Tryz.func57, Tryz.ntmps57
        go_wp2_with fail
        refine (hkk _ (hw2 _ _)).mono ?_
        rintro e w3 ⟨r, rfl, hr, hb3⟩
        obtain ⟨hc3, hf3⟩ := bcell hb3
        have hs3 : w.heap.size + 1 < w3.heap.size := by have := hb3.size; simp at this; omega
        have hbb : Below w.heap.size w w3 := (hw2 _ _).trans (hb3.mono (by simp; omega))
        clear hb3
        by_cases h0 : r = 0
        · have hks := hr.out.1.1 h0
          subst h0
          go_wp2_with fail
          refine (hv _ hbb).mono ?_
          rintro e w4 ⟨r4, rfl, hr4, hb4⟩
          go_wp2_with (refine (sign_any _ _).mono ?_; rintro e w5 ⟨r5, rfl, hr5, hb5⟩)
          go_ret
          exact ⟨_, rfl, Lib.hid ⟨by rw [G.out, hr5.out.1, hr4.out.1]; simp [hks], hr5.out.2⟩, (hbb.trans (hb4.mono hbb.size)).trans (hb5.mono (Nat.le_trans hbb.size hb4.size))⟩
        · have h0' : (r == 0) = false := by simpa using h0
          have h0'' : (r != 0) = true := by simpa using h0
          go_wp2_with (refine (sign_any _ _).mono ?_; rintro e w4 ⟨r4, rfl, hr4, hb4⟩)
          go_ret
          exact ⟨_, rfl, Lib.hid ⟨by rw [G.out, hr4.out.1, hr.out.1]; constructor; (intro g; exact absurd (hr.out.1.2 g) h0); (intro g; exact g.1), hr4.out.2⟩, hbb.trans (hb4.mono hbb.size)⟩
    · have hne : (k1 == k2) = false := by simpa using hkk2
      have G := Lib.hid (HE.out hkk2)
      clear hl hv hkk HB H0 H3 H4 H5 H6 HE
      go_enter Tryz.func57, Tryz.ntmps57
      go_wp2_with (refine (sign_any _ _).mono ?_; rintro e w3 ⟨r, rfl, hr, hb3⟩)
      go_ret
      exact ⟨_, rfl, Lib.hid ⟨by have := G.out; rw [hr.out.1]; constructor; (intro g; omega); (intro g; exact absurd g this), hr.out.2⟩, (hw2 _ _).trans (hb3.mono (by simp; omega))⟩

theorem same_tidy (j1 j2 : JV) (x1 x2 : VC) (B : Nat) (w : World) (h1 : VRep w B x1 j1) (h2 : VRep w B x2 j2) (hB : B ≤ w.heap.size) (r1 : Tidy j1) (r2 : Tidy j2) :
    Calls Tryz.prog 26 #[x1.val, x2.val] w (RB w fun r => r = true ↔ j1 = j2) := by
  have hw2 : ∀ o1 o2, Below w.heap.size w ((w.alloc o1).alloc o2) := fun o1 o2 => ((Below.refl _ _).alloc (Nat.le_refl _) _).alloc (by simp) _
  have hc := fun o1 o2 => cmp_any _ j1 j2 x1 x2 B ((w.alloc o1).alloc o2) (Nat.lt_succ_self _) (h1.keep ((hw2 o1 o2).mono hB) (Nat.le_refl _)) (h2.keep ((hw2 o1 o2).mono hB) (Nat.le_refl _)) (by simp; omega) r1 r2
  obtain ⟨k1, f1, t1, la, ln, lc, ka, kn, kc, va, vn, vc⟩ := x1
  obtain ⟨k2, f2, t2, la', ln', lc', ka', kn', kc', va', vn', vc'⟩ := x2
  clear h1 h2 r1 r2
  go_enter Tryz.func26, Tryz.ntmps26
  go_wp2_with (refine (hc _ _).mono ?_; rintro e w3 ⟨r, rfl, hr, hb3⟩)
  go_ret
  exact ⟨_, rfl, Lib.hid (by rw [← hr.out.1]; simp), (hw2 _ _).trans (hb3.mono (by simp; omega))⟩
theorem same_any (j1 j2 : JV) (x1 x2 : VC) (B : Nat) (w : World) (h1 : VRep w B x1 j1) (h2 : VRep w B x2 j2) (hB : B ≤ w.heap.size) (r1 : Right j1) (r2 : Right j2) :
    Calls Tryz.prog 26 #[x1.val, x2.val] w (RB w fun r => r = true ↔ j1 = j2) := same_tidy j1 j2 x1 x2 B w h1 h2 hB r1.tidy r2.tidy
end Go.Proofs.YtaockngppbeanaaGreatDoor
