/- gojq compares two maps: 0 where their keys, and the values key by key, are the same. -/
import Derived.Test.YtaockngppbeanaaGreatDoorFuncKeys
import Derived.Test.YtaockngppbeanaaGreatDoorAsserts
import Derived.StillTailTactics
namespace Go.Proofs.YtaockngppbeanaaGreatDoor
open Go.RowKit

theorem run_lookup_at {w : World} {r i : Nat} {ks : List ByteArray} {V : Nat → Value} (h : w.heap[r]? = some (.map (ents ks V ks.length) ks.length)) (hi : i < ks.length)
    (ord : ∀ i, i + 1 < ks.length → lessB (ks.getD i ByteArray.empty) (ks.getD (i + 1) ByteArray.empty)) :
    (Instr.lookup 74 (.map (some r)) (.string (ks.getD i ByteArray.empty)) false).run Tryz.prog w = .ok (V i) w := by
  have hf : Instr.findNow .string (.string (ks.getD i ByteArray.empty)) (ents ks V ks.length).toList 0 = some (some (i, V i)) := by
    rcases MapKept.findNow_spec (d := .string) (k := .string (ks.getD i ByteArray.empty)) (by simp [MapKept.IsKey]) (ents ks V ks.length).toList 0 (fun x hx => by obtain ⟨j, _, rfl⟩ := ents_mem.1 hx; simp [MapKept.IsKey, ent]) with ⟨_, h2⟩ | ⟨j, e, h1, h2, h3⟩
    · exact absurd rfl (h2 (ent ks V i) (ents_mem.2 ⟨i, hi, rfl⟩))
    · have hj : j < ks.length := by
        have := (List.getElem?_eq_some_iff.1 h2).1
        simpa [ents_list] using this
      have he : e = ent ks V j := by
        rw [ents_list, List.getElem?_map, List.getElem?_range hj] at h2
        simpa using h2.symm
      subst he
      have hk : ks.getD j ByteArray.empty = ks.getD i ByteArray.empty := by
        have : Value.string (ks.getD j ByteArray.empty) = .string (ks.getD i ByteArray.empty) := h3
        exact Value.string.inj this
      have hji : j = i := by
        rcases Nat.lt_trichotomy j i with g | g | g
        · exfalso
          obtain ⟨d, rfl⟩ : ∃ d, i = j + (d + 1) := ⟨i - j - 1, by omega⟩
          exact lessB_ne (lessB_chain ord d j hi) hk
        · exact g
        · exfalso
          obtain ⟨d, rfl⟩ : ∃ d, j = i + (d + 1) := ⟨j - i - 1, by omega⟩
          exact lessB_ne (lessB_chain ord d i hj) hk.symm
      subst hji
      rw [h1]; simp [ent]
  generalize ks.getD i ByteArray.empty = s at hf ⊢
  simp [Instr.lookup, run_underlying Tryz.underlying74, MapKept.run_getObj_map h, MapKept.run_checkKey (d := .string) Tryz.underlying9 (k := .string s) (by simp [MapKept.IsKey]), MapKept.run_findKey (d := .string) Tryz.underlying9 hf, Result.andThen]

set_option maxRecDepth 100000 in
set_option maxHeartbeats 4000000 in
theorem gmaps_walk (R : Nat → Prop) (ks1 ks2 : List ByteArray) (V1 V2 : Nat → Value) (r1 r2 : Nat) (w : World)
    (hm1 : w.heap[r1]? = some (.map (ents ks1 V1 ks1.length) ks1.length)) (hm2 : w.heap[r2]? = some (.map (ents ks2 V2 ks2.length) ks2.length)) (hl1 : ks1.length ≤ 400) (hl2 : ks2.length ≤ 400)
    (ord1 : ∀ i, i + 1 < ks1.length → lessB (ks1.getD i ByteArray.empty) (ks1.getD (i + 1) ByteArray.empty)) (ord2 : ∀ i, i + 1 < ks2.length → lessB (ks2.getD i ByteArray.empty) (ks2.getD (i + 1) ByteArray.empty))
    (hT : ∀ (a1 a2 : Option Addr) (n1 n2 : Nat) (wr : World) (lo hi lo' hi' : Nat), n1 = ks1.length → n2 = ks2.length → hi ≤ wr.heap.size → hi' ≤ wr.heap.size → Row wr lo hi a1 n1 (fun i => .iface 9 (.string (ks1.getD i ByteArray.empty))) → Row wr lo' hi' a2 n2 (fun i => .iface 9 (.string (ks2.getD i ByteArray.empty))) →
      Calls Tryz.prog 126 #[.iface 71 (.slice a1 n1 n1), .iface 71 (.slice a2 n2 n2)] wr (RI wr fun c => c = 0 ↔ ks1 = ks2))
    (hcall : ∀ (k : Nat) (wr : World), k < ks1.length → ks1 = ks2 → Below w.heap.size w wr → Calls Tryz.prog 126 #[V1 k, V2 k] wr (RI wr fun c => c = 0 ↔ R k)) :
    Calls Tryz.prog 149 #[.map (some r1), .map (some r2)] w (RI w fun c => c = 0 ↔ ks1 = ks2 ∧ ∀ k, k < ks1.length → R k) := by
  have hf1 := funcKeys_gen ks1 V1 r1 w hm1 hl1 ord1
  have hr1 : r1 < w.heap.size := (Array.getElem?_eq_some_iff.1 hm1).1
  have hr2 : r2 < w.heap.size := (Array.getElem?_eq_some_iff.1 hm2).1
  have hf2 := fun (wr : World) (hb : Below w.heap.size w wr) => funcKeys_gen ks2 V2 r2 wr ((hb.block r2 hr2).trans hm2) hl2 ord2
  have hlk1 := fun (wr : World) (hb : Below w.heap.size w wr) (i : Nat) (hi : i < ks1.length) => run_lookup_at (w := wr) ((hb.block r1 hr1).trans hm1) hi ord1
  have hlk2 := fun (wr : World) (hb : Below w.heap.size w wr) (i : Nat) (hi : i < ks2.length) => run_lookup_at (w := wr) ((hb.block r2 hr2).trans hm2) hi ord2
  obtain ⟨POST, hP⟩ : ∃ P, (RI w fun c => c = 0 ↔ ks1 = ks2 ∧ ∀ k, k < ks1.length → R k) = P := ⟨_, rfl⟩
  rw [hP]
  have HP := Lib.hid hP
  clear hP hm1 hm2 ord1 ord2
  go_enter Tryz.func149, Tryz.ntmps149
  go_wp2_with fail
  refine hf1.mono ?_
  rintro e w1 ⟨n1, hn1, rfl, hrow1, hs1, hb1⟩
  have HN1 := Lib.hid hn1
  clear hn1 hf1
  go_wp2_with fail
  refine (hf2 w1 hb1).mono ?_
  rintro e w2 ⟨n2, hn2, rfl, hrow2, hs2, hb2⟩
  have HN2 := Lib.hid hn2
  clear hn2 hf2
  have hb12 : Below w.heap.size w w2 := hb1.trans (hb2.mono hb1.size)
  have hrow1' := hrow1.keep (w' := w2) (lo' := w.heap.size) (hi' := w1.heap.size) (SameOn.of_below hb2 (Nat.le_refl _)) (Nat.le_refl _) (Nat.le_refl _)
  have ht := hT _ _ n1 n2 w2 _ _ _ _ HN1.out HN2.out hb2.size (Nat.le_refl _) hrow1' hrow2
  clear hT hrow1 hrow2
  go_wp2_with fail
  refine ht.mono ?_
  rintro e w3 ⟨c, rfl, hc, hb3⟩
  have hb13 : Below w.heap.size w w3 := hb12.trans (hb3.mono hb12.size)
  have hrow3 := hrow1'.keep (w' := w3) (lo' := w.heap.size) (hi' := w1.heap.size) (SameOn.of_below hb3 hb2.size) (Nat.le_refl _) (Nat.le_refl _)
  clear ht hrow1'
  by_cases hc0 : c = 0
  · have hks := hc.out.1 hc0
    subst hks
    subst hc0
    have e21 : n2 = n1 := HN2.out.trans HN1.out.symm
    subst e21
    obtain ⟨S, hS⟩ : ∃ S : Nat → ByteArray, ∀ i, S i = ks1.getD i ByteArray.empty := ⟨_, fun _ => rfl⟩
    simp only [← hS] at hlk1 hlk2 hrow3
    have HSS := Lib.hid hS; clear hS
    obtain ⟨nn, hnn⟩ : ∃ nn, ks1.length = nn := ⟨_, rfl⟩
    have HNN := Lib.hid hnn
    have hn2n : n2 = nn := HN1.out.trans hnn
    subst hn2n
    rw [hnn] at hlk1 hlk2 hcall hl1 hl2
    clear hnn hc
    go_wp2_with fail
    go_loopw [26] (fun i wr => ∃ k : Nat, k ≤ n2 ∧ i = .int .i64 k ∧ Below w3.heap.size w3 wr ∧ ∀ q, q < k → R q) (fun i _ => n2 - (intOf i).toNat)
    case atStart => exact ⟨0, Nat.zero_le _, rfl, Below.refl _ _, fun q hq => by omega⟩
    case round =>
      obtain ⟨k, hk, rfl, hb, hall⟩ := hrel
      have HA := Lib.hid hall
      clear hall
      have hbw : Below w.heap.size w wr := hb13.trans (hb.mono hb13.size)
      by_cases hlt : k < n2
      · rcases hrow3 with hrow3 | ⟨b, off, ha, hlo, hlb, hrow3⟩
        · omega
        have ha' : b = w.heap.size ∧ off = 0 := by simpa using ha.symm
        obtain ⟨rfl, rfl⟩ := ha'
        have c0 := (hb.cell (p := ⟨w.heap.size, 0 + k, none⟩) (by show w.heap.size < _; have := hb13.size; have := hb3.size; have := hb2.size; omega)).trans (hrow3 k hlt)
        simp only [Nat.zero_add] at c0
        have l1 := hlk1 wr.drew hbw.drew k hlt
        have l2 := hlk2 wr.drew hbw.drew k hlt
        have hcal := hcall k
        clear hcall hlk1 hlk2
        go_wp2_with fail
        refine wp_region_still_tail 8 (by kernel_rfl) (by kernel_rfl) ?_
        simp only [List.take_succ_cons, List.take_zero, List.drop_succ_cons, List.drop_zero]
        iterate 8 ((with_reducible refine wpStill_step (fun K hK => ?_)); go_simp; (with_reducible refine hK _ ?_); clear hK K)
        (with_reducible refine wpStill_nil ?_)
        change wpList _ _ _ _ _ wr.drew
        have hbd : Below w3.heap.size w3 wr.drew := hb.drew
        have hbwd : Below w.heap.size w wr.drew := hbw.drew
        generalize wr.drew = w4 at hbd hbwd ⊢
        clear c0 hb hbw l1 l2
        go_wp2_with fail
        refine (hcal _ hlt (by trivial) hbwd).mono ?_
        rintro e w5 ⟨r, rfl, hr, hb5⟩
        have hb5w : Below w3.heap.size w3 w5 := hbd.trans (hb5.mono hbd.size)
        have hb5w' : Below w.heap.size w w5 := hbwd.trans (hb5.mono hbwd.size)
        by_cases hr0 : r = 0
        · have hRk := hr.out.1 hr0
          subst hr0
          go_wp2_with fail
          have hrel : ∃ k' : Nat, k' ≤ n2 ∧ Value.int .i64 ((k : Int) + 1) = .int .i64 k' ∧ Below w3.heap.size w3 w5 ∧ ∀ q, q < k' → R q := ⟨k + 1, by omega, by go_num, hb5w, fun q hq => by
            by_cases e : q = k
            · subst e; exact hRk
            · exact HA.out q (by omega)⟩
          go_roundw
          case rel => exact hrel
          case measure => simp [intOf]; omega
        · have h0' : (r == 0) = false := by simpa using hr0
          have h0'' : (r != 0) = true := by simpa using hr0
          have HR := Lib.hid hr0; clear hr0
          go_wp2_with fail
          rw [← HP.out]
          exact ⟨_, rfl, Lib.hid ⟨fun h => absurd h HR.out, fun h => absurd (hr.out.2 (h.2 k (by rw [HNN.out]; exact hlt))) HR.out⟩, hb5w'⟩
      · go_wp2_with fail
        rw [← HP.out]
        exact ⟨_, rfl, Lib.hid ⟨fun _ => ⟨by trivial, fun q hq => HA.out q (by rw [HNN.out] at hq; omega)⟩, fun _ => rfl⟩, hbw⟩
  · have h0' : (c == 0) = false := by simpa using hc0
    have h0'' : (c != 0) = true := by simpa using hc0
    have HR := Lib.hid hc0; clear hc0
    go_wp2_with fail
    rw [← HP.out]
    exact ⟨_, rfl, Lib.hid ⟨fun h => absurd h HR.out, fun h => absurd (hc.out.2 h.1) HR.out⟩, hb13⟩
end Go.Proofs.YtaockngppbeanaaGreatDoor
