/- Words of floats: an integer, and half of one, are written exactly, and two of them stand to each other as the integers do. -/
import Derived.Test.YtaockngppbeanaaGreatDoorBase
namespace Go.Proofs.YtaockngppbeanaaGreatDoor
open Go.RowKit

/-- So many twos are enough. -/
def big : Nat := 1099
theorem big_ge : 1099 ≤ big := Nat.le_refl _
attribute [irreducible] big
/-- A word of a float that stands for h halves. -/
def IsHalf (bits : Nat) (h : Int) : Prop := ∃ s m e, Ieee.double.read bits = .number s m e ∧ -1074 ≤ e ∧ Ieee.signed s m (e + (big + 1 : Nat)).toNat = h * 2 ^ big

theorem signed_mul (s : Bool) (m a b : Nat) : Ieee.signed s m (a + b) = Ieee.signed s m a * 2 ^ b := by
  unfold Ieee.signed
  cases s <;> simp [Nat.shiftLeft_eq, Nat.pow_add, ← Int.mul_assoc, Int.neg_mul]

theorem IsHalf.order {b1 b2 : Nat} {h1 h2 : Int} (a : IsHalf b1 h1) (b : IsHalf b2 h2) : Ieee.double.order b1 b2 = some (compare h1 h2) := by
  obtain ⟨s1, m1, e1, r1, g1, v1⟩ := a
  obtain ⟨s2, m2, e2, r2, g2, v2⟩ := b
  unfold Ieee.Format.order
  rw [r1, r2]
  simp only [Ieee.Datum.order]
  congr 1
  have hbg := big_ge
  obtain ⟨q, hq⟩ : ∃ q : Nat, (min e1 e2 + (big + 1 : Nat) : Int) = q := ⟨(min e1 e2 + (big + 1 : Nat)).toNat, by omega⟩
  have x1 : (e1 + (big + 1 : Nat)).toNat = (e1 - min e1 e2).toNat + q := by omega
  have x2 : (e2 + (big + 1 : Nat)).toNat = (e2 - min e1 e2).toNat + q := by omega
  rw [x1, signed_mul] at v1
  rw [x2, signed_mul] at v2
  generalize Ieee.signed s1 m1 (e1 - min e1 e2).toNat = p1 at *
  generalize Ieee.signed s2 m2 (e2 - min e1 e2).toNat = p2 at *
  have hp : (0 : Int) < 2 ^ q := by exact Int.pow_pos (by decide)
  have hp2 : (0 : Int) < 2 ^ big := by exact Int.pow_pos (by decide)
  have lt_iff : p1 < p2 ↔ h1 < h2 := by
    rw [← Int.mul_lt_mul_right hp, v1, v2, Int.mul_lt_mul_right hp2]
  have gt_iff : p2 < p1 ↔ h2 < h1 := by
    rw [← Int.mul_lt_mul_right hp, v1, v2, Int.mul_lt_mul_right hp2]
  rcases Int.lt_trichotomy p1 p2 with h | h | h
  · have := lt_iff.1 h
    rw [Int.compare_eq_lt.2 h, Int.compare_eq_lt.2 this]
  · have n1 : ¬ h1 < h2 := fun g => by have := lt_iff.2 g; omega
    have n2 : ¬ h2 < h1 := fun g => by have := gt_iff.2 g; omega
    rw [Int.compare_eq_eq.2 h, Int.compare_eq_eq.2 (by omega)]
  · have := gt_iff.1 h
    rw [Int.compare_eq_gt.2 h, Int.compare_eq_gt.2 this]

/-- A rung of an ordinary number, with its sign, reads as it was written. -/
theorem read_word (s : Bool) (kept : Nat) (last : Int) (h1 : 4503599627370496 ≤ kept) (h2 : kept < 9007199254740992) (h3 : -1074 ≤ last) (h4 : last ≤ 500) :
    Ieee.double.read (Ieee.double.word s (min ((last - Ieee.double.leastPlace).toNat * Ieee.double.binade + kept) Ieee.double.infRung)) = .number s kept last := by
  have e1 : Ieee.double.leastPlace = -1074 := by decide
  have e2 : Ieee.double.binade = 4503599627370496 := by decide
  have e3 : Ieee.double.infRung = 9218868437227405312 := by decide
  have e4 : Ieee.double.signWeight = 9223372036854775808 := by decide
  obtain ⟨q, hq⟩ : ∃ q : Nat, last - (-1074) = q := ⟨(last - (-1074)).toNat, by omega⟩
  rw [e1, e2, e3, hq, Int.toNat_natCast]
  have hq2 : q ≤ 1574 := by omega
  have hm : min (q * 4503599627370496 + kept) 9218868437227405312 = q * 4503599627370496 + kept := by omega
  rw [hm]
  unfold Ieee.Format.read Ieee.Format.word
  simp only [e1, e2, e3, e4]
  have d1 : ∀ b : Bool, (if b = true then 9223372036854775808 + (q * 4503599627370496 + kept) else q * 4503599627370496 + kept) % 9223372036854775808 = q * 4503599627370496 + kept := by
    intro b; cases b <;> simp <;> omega
  have d2 : ∀ b : Bool, ((if b = true then 9223372036854775808 + (q * 4503599627370496 + kept) else q * 4503599627370496 + kept) / 9223372036854775808 % 2 == 1) = b := by
    intro b
    cases b
    · have : (q * 4503599627370496 + kept) / 9223372036854775808 % 2 = 0 := by omega
      rw [if_neg (by decide), this]; rfl
    · have : (9223372036854775808 + (q * 4503599627370496 + kept)) / 9223372036854775808 % 2 = 1 := by omega
      rw [if_pos rfl, this]; rfl
  rw [d1, d2]
  have a1 : ¬ (q * 4503599627370496 + kept < 4503599627370496) := by omega
  have a2 : q * 4503599627370496 + kept < 9218868437227405312 := by omega
  rw [if_neg a1, if_pos a2]
  have a3 : (q * 4503599627370496 + kept) % 4503599627370496 = kept - 4503599627370496 := by omega
  have a4 : (q * 4503599627370496 + kept) / 4503599627370496 = q + 1 := by omega
  rw [a3, a4]
  have a5 : 4503599627370496 + (kept - 4503599627370496) = kept := by omega
  have a6 : (-1074 : Int) + ((q + 1 - 1 : Nat) : Int) = last := by omega
  rw [a5, a6]

theorem cut_exact (s : Bool) (n d : Nat) (h : 2 ^ (min d (n.log2 + 2)) ∣ n) : Ieee.Toward.even.cut s n d = n / 2 ^ (min d (n.log2 + 2)) := by
  have hz : n % 2 ^ (min d (n.log2 + 2)) = 0 := Nat.mod_eq_zero_of_dvd h
  have hp : 0 < 2 ^ (min d (n.log2 + 2)) := Nat.two_pow_pos _
  unfold Ieee.Toward.cut
  simp only [Nat.one_shiftLeft, hz]
  have h0 : ¬ (2 ^ (min d (n.log2 + 2)) < 2 * 0) := by omega
  have h1 : (2 ^ (min d (n.log2 + 2)) == 2 * 0) = false := by simp
  simp [h1]

/-- A number of 53 digits at the most is written exactly. -/
theorem write_read (s : Bool) (m : Nat) (e : Int) (hm : 0 < m) (hm2 : m < 2 ^ 60) (he : -200 ≤ e) (he2 : e ≤ 200) (c k : Nat) (hc : m = c * 2 ^ k) (hc2 : c < 2 ^ 53) :
    ∃ m' e', Ieee.double.read (Ieee.double.nearest s m e) = .number s m' e' ∧ (e - 60 ≤ e' ∧ e' ≤ e + 60) ∧ 2 ^ 52 ≤ m' ∧ m' < 2 ^ 53 ∧ ∀ N : Nat, 300 ≤ N → m' * 2 ^ (e' + N).toNat = m * 2 ^ (e + N).toNat := by
  have hl1 : 2 ^ m.log2 ≤ m := Nat.log2_self_le (by omega)
  have hl2 : m < 2 ^ (m.log2 + 1) := Nat.lt_log2_self
  have hlt : m.log2 < 60 := by
    rcases Nat.lt_or_ge m.log2 60 with h | h
    · exact h
    · have := Nat.pow_le_pow_right (n := 2) (by decide) h; omega
  have e1 : Ieee.double.leastPlace = -1074 := by decide
  have e5 : (Ieee.double.fractionBits : Int) = 52 := rfl
  have hmax : max (e + (m.log2 : Int) - (Ieee.double.fractionBits : Int)) Ieee.double.leastPlace = e + m.log2 - 52 := by rw [e1, e5]; omega
  have key : Ieee.double.nearest s m e = Ieee.double.word s (min (((e + m.log2 - 52) - Ieee.double.leastPlace).toNat * Ieee.double.binade + Ieee.Toward.even.cut s (m <<< (e - (e + m.log2 - 52)).toNat) ((e + m.log2 - 52) - e).toNat) Ieee.double.infRung) := by
    unfold Ieee.Format.nearest
    rw [if_neg (by omega)]
    simp only [hmax]
  rw [key]
  clear key hmax
  generalize hl : m.log2 = l at *
  by_cases hc52 : l ≤ 52
  · have t1 : (e - (e + l - 52)).toNat = 52 - l := by omega
    have t2 : ((e + l - 52) - e).toNat = 0 := by omega
    have hk : Ieee.Toward.even.cut s (m <<< (e - (e + l - 52)).toNat) ((e + l - 52) - e).toNat = m * 2 ^ (52 - l) := by
      rw [t1, t2, cut_exact _ _ _ (by simp), Nat.shiftLeft_eq]; simp
    rw [hk]
    have b1 : 2 ^ 52 ≤ m * 2 ^ (52 - l) := by
      calc 2 ^ 52 = 2 ^ l * 2 ^ (52 - l) := by rw [← Nat.pow_add]; congr 1; omega
        _ ≤ _ := Nat.mul_le_mul_right _ hl1
    have b2 : m * 2 ^ (52 - l) < 2 ^ 53 := by
      calc m * 2 ^ (52 - l) < 2 ^ (l + 1) * 2 ^ (52 - l) := Nat.mul_lt_mul_of_pos_right hl2 (Nat.two_pow_pos _)
        _ = 2 ^ 53 := by rw [← Nat.pow_add]; congr 1; omega
    refine ⟨_, _, read_word s _ _ (by simpa using b1) (by simpa using b2) (by omega) (by omega), by omega, b1, b2, fun N hN => ?_⟩
    rw [Nat.mul_assoc, ← Nat.pow_add]
    congr 2
    omega
  · have hc0 : 0 < c := by rcases Nat.eq_zero_or_pos c with h | h; · simp [h] at hc; omega
                           · exact h
    have hkd : l - 52 ≤ k := by
      rcases Nat.lt_or_ge k (l - 52) with h | h
      · exfalso
        have : m < 2 ^ (53 + k) := by rw [hc, Nat.pow_add]; exact Nat.mul_lt_mul_of_pos_right hc2 (Nat.two_pow_pos _)
        have h2 : 2 ^ (53 + k) ≤ 2 ^ l := Nat.pow_le_pow_right (by decide) (by omega)
        omega
      · exact h
    have hdvd : 2 ^ (l - 52) ∣ m := by
      rw [hc]; exact Nat.dvd_mul_left_of_dvd (Nat.pow_dvd_pow 2 hkd) c
    have t1 : (e - (e + l - 52)).toNat = 0 := by omega
    have t2 : ((e + l - 52) - e).toNat = l - 52 := by omega
    have t3 : min (l - 52) (m.log2 + 2) = l - 52 := by rw [hl]; omega
    have hk : Ieee.Toward.even.cut s (m <<< (e - (e + l - 52)).toNat) ((e + l - 52) - e).toNat = m / 2 ^ (l - 52) := by
      rw [t1, t2, Nat.shiftLeft_zero, cut_exact _ _ _ (by rw [t3]; exact hdvd), t3]
    rw [hk]
    obtain ⟨q, hq⟩ := hdvd
    have hq2 : m / 2 ^ (l - 52) = q := by rw [hq, Nat.mul_comm, Nat.mul_div_cancel _ (Nat.two_pow_pos _)]
    have hl3 : l = 52 + (l - 52) := by omega
    have b1 : 2 ^ 52 ≤ q := by
      have : 2 ^ 52 * 2 ^ (l - 52) ≤ q * 2 ^ (l - 52) := by
        rw [← Nat.pow_add, ← hl3, Nat.mul_comm q, ← hq]; exact hl1
      exact Nat.le_of_mul_le_mul_right this (Nat.two_pow_pos _)
    have b2 : q < 2 ^ 53 := by
      have : q * 2 ^ (l - 52) < 2 ^ 53 * 2 ^ (l - 52) := by
        rw [← Nat.pow_add, show 53 + (l - 52) = l + 1 by omega, Nat.mul_comm q, ← hq]; exact hl2
      exact Nat.lt_of_mul_lt_mul_right this
    rw [hq2]
    refine ⟨q, _, read_word s _ _ (by simpa using b1) (by simpa using b2) (by omega) (by omega), by omega, b1, b2, fun N hN => ?_⟩
    have : (e + l - 52 + N).toNat = (l - 52) + (e + N).toNat := by omega
    rw [this, Nat.pow_add, ← Nat.mul_assoc, Nat.mul_comm q, ← hq]

theorem signed_val (s : Bool) (m : Nat) (a : Nat) : Ieee.signed s m a = (if s then -1 else 1) * ((m * 2 ^ a : Nat) : Int) := by
  unfold Ieee.signed
  cases s <;> simp [Nat.shiftLeft_eq]

theorem sign_abs (n : Int) : (if (decide (n < 0)) then -1 else 1 : Int) * (n.natAbs : Int) = n := by
  by_cases h : n < 0
  · simp [h]; omega
  · simp [h]; omega

theorem read_zero : Ieee.double.read (Ieee.double.nearest false 0 0) = .number false 0 (-1074) := by decide

theorem nearest_read (n : Int) (h0 : n ≠ 0) (h1 : -9007199254740992 ≤ n) (h2 : n ≤ 9007199254740992) :
    ∃ m' e', Ieee.double.read (FloatKind.f64.nearest n) = .number (decide (n < 0)) m' e' ∧ (-60 ≤ e' ∧ e' ≤ 60) ∧ 2 ^ 52 ≤ m' ∧ m' < 2 ^ 53 ∧ ∀ N : Nat, 300 ≤ N → m' * 2 ^ (e' + N).toNat = n.natAbs * 2 ^ N := by
  have hk : FloatKind.f64.nearest n = Ieee.double.nearest (decide (n < 0)) n.natAbs 0 := rfl
  rw [hk]
  by_cases hb : n.natAbs < 2 ^ 53
  · obtain ⟨m', e', a, b, c, d, f⟩ := write_read (decide (n < 0)) n.natAbs 0 (by omega) (by omega) (by decide) (by decide) n.natAbs 0 (by simp) hb
    exact ⟨m', e', a, by omega, c, d, fun N hN => by rw [f N hN]; simp⟩
  · have he : n.natAbs = 2 ^ 53 := by omega
    obtain ⟨m', e', a, b, c, d, f⟩ := write_read (decide (n < 0)) n.natAbs 0 (by omega) (by omega) (by decide) (by decide) 1 53 (by rw [he]) (by decide)
    exact ⟨m', e', a, by omega, c, d, fun N hN => by rw [f N hN]; simp⟩

/-- An integer as a float. -/
theorem isHalf_int (n : Int) (h1 : -9007199254740992 ≤ n) (h2 : n ≤ 9007199254740992) : IsHalf (FloatKind.f64.nearest n) (2 * n) := by
  have hbg := big_ge
  by_cases h0 : n = 0
  · subst h0
    exact ⟨false, 0, -1074, read_zero, by decide, by simp [Ieee.signed]⟩
  · obtain ⟨m', e', a, b, _, _, f⟩ := nearest_read n h0 h1 h2
    refine ⟨_, m', e', a, by omega, ?_⟩
    rw [signed_val, f (big + 1) (by omega), Int.natCast_mul, ← Int.mul_assoc, sign_abs n, Int.natCast_pow, Int.pow_succ]
    rw [Int.mul_comm 2 n, Int.mul_assoc, Int.mul_comm 2]
    rfl

/-- Half of an integer. -/
theorem isHalf_div (h : Int) (h0 : h ≠ 0) (h1 : -9007199254740992 < h) (h2 : h < 9007199254740992) : ∃ b, Ieee.double.div (FloatKind.f64.nearest h) 4611686018427387904 = some b ∧ IsHalf b h := by
  have hbg := big_ge
  obtain ⟨m', e', a, b, c, d, f⟩ := nearest_read h h0 (by omega) (by omega)
  have r2 : Ieee.double.read 4611686018427387904 = .number false 4503599627370496 (-51) := by decide
  have hlog : m'.log2 = 52 := by
    have l1 : 52 ≤ m'.log2 := (Nat.le_log2 (by omega)).2 c
    have l2 : m'.log2 < 53 := (Nat.log2_lt (by omega)).2 d
    omega
  have hlog2 : (4503599627370496 : Nat).log2 = 52 := by decide
  have hq : Ieee.Datum.quotient 54 (.number (decide (h < 0)) m' e') (.number false 4503599627370496 (-51)) = some (.number (decide (h < 0)) (8 * m') (e' - 4)) := by
    simp only [Ieee.Datum.quotient, hlog, hlog2]
    rw [if_neg (by decide)]
    have t1 : m' <<< (54 + 52 - 52) = m' * 18014398509481984 := by rw [Nat.shiftLeft_eq]
    have t2 : m' * 18014398509481984 / 4503599627370496 = 4 * m' := by omega
    have t3 : m' * 18014398509481984 % 4503599627370496 = 0 := by omega
    rw [t1, t2, t3]
    simp
    omega
  unfold Ieee.Format.div
  rw [a, r2, show Ieee.double.fractionBits + 2 = 54 from rfl, hq]
  refine ⟨_, rfl, ?_⟩
  obtain ⟨m2, e2, a2, b2, _, _, f2⟩ := write_read (decide (h < 0)) (8 * m') (e' - 4) (by omega) (by omega) (by omega) (by omega) m' 3 (by omega) d
  refine ⟨_, m2, e2, a2, by omega, ?_⟩
  rw [signed_val, f2 (big + 1) (by omega)]
  have t4 : (e' + ((big : Nat) : Int)).toNat = (e' - 4 + ((big + 1 : Nat) : Int)).toNat + 3 := by omega
  have t5 : 8 * m' * 2 ^ (e' - 4 + ((big + 1 : Nat) : Int)).toNat = m' * 2 ^ (e' + ((big : Nat) : Int)).toNat := by
    rw [t4, Nat.pow_add]
    generalize 2 ^ (e' - 4 + ((big + 1 : Nat) : Int)).toNat = Q
    show 8 * m' * Q = m' * (Q * 8)
    rw [Nat.mul_comm 8 m', Nat.mul_assoc, Nat.mul_comm 8 Q]
  rw [t5, f big (by omega), Int.natCast_mul, ← Int.mul_assoc, sign_abs h, Int.natCast_pow]
  rfl
end Go.Proofs.YtaockngppbeanaaGreatDoor
