/- spec.Vague: of a right value nothing is vague. No condition beyond the right value. -/
import Derived.Test.YtaockngppbeanaaGreatDoorBase
namespace Go.Proofs.YtaockngppbeanaaGreatDoor
open Go.RowKit

set_option maxHeartbeats 1000000 in
theorem vague_any (n : Nat) : ∀ (j : JV) (x : VC) (B : Nat) (w : World), SizeOf.sizeOf j < n → VRep w B x j → B ≤ w.heap.size → Right j →
    Calls Tryz.prog 20 #[x.val] w (RB w fun r => r = false) := by
  induction n with
  | zero => intro j x B w h; omega
  | succ n ih =>
    intro j x B w hn hrep hB hr
    obtain ⟨_, ls, ks, vs, L, V, hn1, hn2, hn3, hb1, hb2, hb3, hc1, hc2, hc3, hc4, hc5, hc6, ht, hk, hh, hs, r1, r2, r3, h1, h3⟩ := hrep
    obtain ⟨_, _, _, _, _, _, k0, k6, z1, z2, z3, z4, z5, b1, b2, b3, st, sl, sv, sk, ord, rr1, rr3⟩ := hr
    have e7 : (x.kind == 7) = false := by simp; omega
    have H1 := Lib.hid hn1; have H3 := Lib.hid hn3; have H5 := Lib.hid z5
    have hcall1 : ∀ (k : Nat) (wr : World), k < x.ln → Below w.heap.size w wr → Calls Tryz.prog 20 #[(L k).val] wr (RB wr fun r => r = false) := fun k wr hk hb =>
      ih (ls[k]'(by omega)) (L k) B wr (by have := JV.lt_list (k := x.kind) (h := x.half) (t := x.text) (ls := ls) (ks := ks) (vs := vs) (i := k) (by omega); omega) ((h1 k (by omega)).keep (hb.mono hB) (Nat.le_refl _)) (Nat.le_trans hB hb.size) (rr1 _ (List.getElem_mem _))
    have hcall3 : ∀ (k : Nat) (wr : World), k < x.vn → Below w.heap.size w wr → Calls Tryz.prog 20 #[(V k).val] wr (RB wr fun r => r = false) := fun k wr hk hb =>
      ih (vs[k]'(by omega)) (V k) B wr (by have := JV.lt_vals (k := x.kind) (h := x.half) (t := x.text) (ls := ls) (ks := ks) (vs := vs) (i := k) (by omega); omega) ((h3 k (by omega)).keep (hb.mono hB) (Nat.le_refl _)) (Nat.le_trans hB hb.size) (rr3 _ (List.getElem_mem _))
    clear hn1 hn2 hn3 z5 z1 z2 z3 z4 hn ih h1 h3 rr1 rr3
    go_enter Tryz.func20, Tryz.ntmps20
    go_wp2_with fail
    go_loopw [10] (fun i wr => ∃ k : Nat, k ≤ x.ln ∧ i = .int .i64 k ∧ Below (w.heap.size + 1) (boxV w x) wr) (fun i _ => x.ln - (intOf i).toNat)
    case atStart => exact ⟨0, Nat.zero_le _, rfl, Below.refl _ _⟩
    case round =>
      obtain ⟨k, hk, rfl, hb⟩ := hrel
      have hbw : Below w.heap.size w wr := ((Below.refl _ _).alloc (Nat.le_refl _) _).trans (hb.mono (by omega))
      have hsz := hb.size
      simp only [World.size_alloc] at hsz
      by_cases hlt : k < x.ln
      · rcases r1 with r1 | ⟨b, off, ha, hlb, r1⟩
        · omega
        have hc := hcall1 k
        obtain ⟨c0, c1, c2, c3, c4, c5⟩ := ((r1 k hlt).keep (w' := wr) hbw (by omega))
        go_wp2_with (refine (hc _ hlt (hbw.alloc hbw.size _)).mono ?_; rintro e w' ⟨r, rfl, hr, hb2⟩; obtain rfl := hr.out)
        go_roundw
        case rel => ((repeat apply Exists.intro); exact ⟨⟨k + 1, by omega, by go_num, hb.trans (((Below.refl _ _).alloc (by omega) _).trans (hb2.mono (by simp; omega)))⟩, by rw [ha]; rfl⟩)
        case measure => simp [intOf]; omega
      · obtain ⟨hc, hf⟩ := bcell hb
        go_wp2_with fail
        go_loopw [20] (fun i w2 => ∃ k : Nat, k ≤ x.vn ∧ i = .int .i64 k ∧ Below (w.heap.size + 1) (boxV w x) w2) (fun i _ => x.vn - (intOf i).toNat)
        case atStart => exact ⟨0, Nat.zero_le _, rfl, hb⟩
        case round =>
          clear hc hf hb hsz hbw
          obtain ⟨k, hk, rfl, hb⟩ := hrel
          rename_i w2 _ _ _ _ _ _ _ _ _
          have hbw : Below w.heap.size w wr := ((Below.refl _ _).alloc (Nat.le_refl _) _).trans (hb.mono (by omega))
          have hsz := hb.size
          simp only [World.size_alloc] at hsz
          by_cases hlt : k < x.vn
          · rcases r3 with r1 | ⟨b, off, ha, hlb, r1⟩
            · omega
            have hc := hcall3 k
            obtain ⟨c0, c1, c2, c3, c4, c5⟩ := ((r1 k hlt).keep (w' := wr) hbw (by omega))
            go_wp2_with (refine (hc _ hlt (hbw.alloc hbw.size _)).mono ?_; rintro e w' ⟨r, rfl, hr, hb2⟩; obtain rfl := hr.out)
            go_roundw
            case rel => ((repeat apply Exists.intro); exact ⟨⟨k + 1, by omega, by go_num, hb.trans (((Below.refl _ _).alloc (by omega) _).trans (hb2.mono (by simp; omega)))⟩, by rw [ha]; rfl⟩)
            case measure => simp [intOf]; omega
          · obtain ⟨hc, hf⟩ := bcell hb
            go_wp2_with fail
            go_ret
            exact ⟨_, rfl, Lib.hid rfl, hbw⟩
end Go.Proofs.YtaockngppbeanaaGreatDoor
