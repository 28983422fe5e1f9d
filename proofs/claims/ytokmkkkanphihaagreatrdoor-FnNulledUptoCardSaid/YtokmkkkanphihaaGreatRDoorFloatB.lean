/- What shortFloat is asked and answers, for a quotient n / 10^k. Plain. -/
import Derived.Test.YtokmkkkanphihaaGreatRDoorFloat
namespace Go.Proofs.YtokmkkkanphihaaGreatRDoor.Fl
open Go Ieee

theorem s_big : ∀ t, t < 83 → 2 ≤ t → 5 ≤ t + 8 - lp (pB t) ∧ 5 ≤ t + 8 - lp (pA t) := by decide +kernel

theorem usc_small {x p s : Nat} (hx : x < 2 ^ 64) (hp : pm p < 2 ^ 64) (he : pm p % 2 = 0) (hs : 5 ≤ s) : usc x p s ≤ 1000000000000000000 := by
  rw [usc_eq x p s he, stk_eq]
  have h1 : x * pm p < 2 ^ 64 * 2 ^ 64 := Nat.mul_lt_mul_of_lt_of_lt hx hp
  have h2 : 2 ^ 69 ≤ 2 ^ (64 + s) := Nat.pow_le_pow_right (by decide) (by omega)
  have h3 : x * pm p / 2 ^ (64 + s) < 2 ^ 59 := by
    rw [Nat.div_lt_iff_lt_mul (Nat.two_pow_pos _)]
    refine Nat.lt_of_lt_of_le h1 ?_
    have : 2 ^ 59 * 2 ^ 69 ≤ 2 ^ 59 * 2 ^ (64 + s) := Nat.mul_le_mul_left _ h2
    exact Nat.le_trans (by decide) this
  have e : 2 ^ 59 = 576460752303423488 := by decide
  rw [e] at h3
  split <;> omega

/-- What is known of a short number's word. -/
structure ShortAt (n k mag E F t p u1 u2 o D : Nat) : Prop where
  word : mag = E * 2 ^ 52 + F
  fr : F < 4503599627370496
  et : E + t = 1075
  t2 : 2 ≤ t
  t83 : t < 83
  kp : k < p
  dv : D = n * 10 ^ (p - 1 - k)
  b1 : u1 ≤ 1000000000000000000
  b2 : u2 ≤ 1000000000000000000
  c1 : (u1 + o + 3) / 4 ≤ 10 * D
  c2 : o ≤ u2
  c3 : 10 * D ≤ (u2 - o) / 4
  c4 : (u2 - o) / 4 < 10 * D + 10
  way : (F ≠ 0 ∧ p = pB t ∧ o = F % 2 ∧ u1 = usc ((F + 4503599627370496) * 2048 - 1024) p (t + 8 - lp p) ∧ u2 = usc ((F + 4503599627370496) * 2048 + 1024) p (t + 8 - lp p)) ∨
    (F = 0 ∧ p = pA t ∧ o = 0 ∧ u1 = usc 9223372036854775296 p (t + 8 - lp p) ∧ u2 = usc 9223372036854776832 p (t + 8 - lp p))

theorem d_ten {n p k : Nat} (h : k < p) : n * 10 ^ (p - k) = 10 * (n * 10 ^ (p - 1 - k)) := by
  rw [show p - k = (p - 1 - k) + 1 by omega, Nat.pow_succ, ← Nat.mul_assoc, Nat.mul_comm]

theorem short_at {n k mag : Nat} (hn0 : 0 < n) (hn : n < 10 ^ 15) (hk : k ≤ 9) (h : double.div (ofN n) (ofN (10 ^ k)) = some mag) :
    ∃ E F t p u1 u2 o D, ShortAt n k mag E F t p u1 u2 o D := by
  have hk0 : 0 < 10 ^ k := Nat.pow_pos (by decide)
  have hk9 : 10 ^ k ≤ 10 ^ 9 := Nat.pow_le_pow_right (by decide) hk
  have hn53 : n < 2 ^ 53 := Nat.lt_trans hn (by decide)
  have hk53 : 10 ^ k < 2 ^ 53 := Nat.lt_of_le_of_lt hk9 (by decide)
  obtain ⟨l, _, h1, h2, h3⟩ := div_ofN hn0 hn53 hk0 hk53
  rw [h] at h3
  have hmag := Option.some.inj h3
  obtain ⟨M1, M2⟩ := rhe_bounds (n * 2 ^ l) (10 ^ k) (2 ^ 52) (2 ^ 53) hk0 h1 h2
  have hr := rhe_spec (n * 2 ^ l) (10 ^ k) hk0
  have hl83 : l < 83 := by
    rcases Nat.lt_or_ge l 83 with h' | h'
    · exact h'
    · exfalso
      have h5 : 2 ^ 83 ≤ 2 ^ l := Nat.pow_le_pow_right (by decide) h'
      have h6 : 1 * 2 ^ l ≤ n * 2 ^ l := Nat.mul_le_mul_right _ hn0
      have h7 : 2 ^ 53 * 10 ^ k ≤ 2 ^ 53 * 10 ^ 9 := Nat.mul_le_mul_left _ hk9
      have h8 : 2 ^ 53 * 10 ^ 9 < 2 ^ 83 := by decide
      omega
  have hl3 : 3 ≤ l := by
    rcases Nat.lt_or_ge l 3 with h' | h'
    · exfalso
      have h5 : 2 ^ l ≤ 2 ^ 2 := Nat.pow_le_pow_right (by decide) (by omega)
      have h6 : n * 2 ^ l ≤ n * 2 ^ 2 := Nat.mul_le_mul_left _ h5
      have h7 : 2 ^ 52 * 1 ≤ 2 ^ 52 * 10 ^ k := Nat.mul_le_mul_left _ hk0
      have h8 : n * 2 ^ 2 < 10 ^ 15 * 2 ^ 2 := Nat.mul_lt_mul_of_pos_right hn (by decide)
      have h9 : 10 ^ 15 * 2 ^ 2 < 2 ^ 52 := by decide
      omega
    · exact h'
  generalize hM : rhe (n * 2 ^ l) (10 ^ k) = M at *
  have e52 : (2 : Nat) ^ 52 = 4503599627370496 := by decide
  have e53 : (2 : Nat) ^ 53 = 9007199254740992 := by decide
  rcases Nat.lt_or_ge (2 ^ 52) M with hMlt | hMge
  · rcases Nat.lt_or_ge M (2 ^ 53) with hM53 | hM53
    · -- the plain case
      have hs := short_plain hn hl83 (by omega) hMlt hr
      obtain ⟨hok, -, -⟩ := okB l hl83 (by omega)
      obtain ⟨k1, k2, k3, k4, k5, k6, k7, k8⟩ := okT_spec hok
      have hsb := (s_big l hl83 (by omega)).1
      simp only at hs
      obtain ⟨s1, s2, s3, s4, s5⟩ := hs
      rw [d_ten s1] at s2 s4 s5
      have hx : (M - 2 ^ 52 + 4503599627370496) * 2048 = M * 2 ^ 11 := by
        rw [e52]
        rw [e52] at hMlt
        rw [Nat.sub_add_cancel (by omega), show (2 : Nat) ^ 11 = 2048 by decide]
      have e11 : (2 : Nat) ^ 11 = 2048 := by decide
      have e10 : (2 : Nat) ^ 10 = 1024 := by decide
      have e64 : (2 : Nat) ^ 64 = 18446744073709551616 := by decide
      have hodd : (M - 2 ^ 52) % 2 = M % 2 := by rw [e52]; rw [e52] at hMlt; omega
      refine ⟨1075 - l, M - 2 ^ 52, l, pB l, usc (M * 2 ^ 11 - 2 ^ 10) (pB l) (l + 8 - lp (pB l)), usc (M * 2 ^ 11 + 2 ^ 10) (pB l) (l + 8 - lp (pB l)), M % 2, n * 10 ^ (pB l - 1 - k), ?_⟩
      refine ⟨?_, by omega, by omega, by omega, hl83, s1, rfl, ?_, ?_, s2, s3, s4, s5, .inl ⟨by omega, rfl, hodd.symm, ?_, ?_⟩⟩
      · rw [hmag, e52]; rw [e52] at hMlt; omega
      · exact usc_small (by rw [e64, e11, e10]; omega) k6 k7 hsb
      · exact usc_small (by rw [e64, e11, e10]; omega) k6 k7 hsb
      · rw [hx, e10]
      · rw [hx, e10]
    · -- rounded up to a power of two
      have hMe : M = 2 ^ 53 := Nat.le_antisymm M2 hM53
      subst hMe
      obtain ⟨r1, r2, -⟩ := hr
      have h2l : n * 2 ^ l = 2 * (n * 2 ^ (l - 1)) := by
        rw [show l = (l - 1) + 1 by omega, Nat.pow_succ, ← Nat.mul_assoc, Nat.mul_comm 2]; rfl
      have hlo : (4 * 2 ^ 52 - 1) * 10 ^ k ≤ 4 * (n * 2 ^ (l - 1)) := by
        rw [h2l] at r2
        have e1 : (2 * 2 ^ 53) * 10 ^ k = (4 * 2 ^ 52 - 1) * 10 ^ k + 10 ^ k := by
          have : 2 * 2 ^ 53 = (4 * 2 ^ 52 - 1) + 1 := by decide
          rw [this, Nat.add_mul, Nat.one_mul]
        omega
      have hhi : 2 * (n * 2 ^ (l - 1)) ≤ (2 * 2 ^ 52 + 1) * 10 ^ k := by
        rw [h2l] at h2
        have e1 : (2 * 2 ^ 52 + 1) * 10 ^ k = 2 ^ 53 * 10 ^ k + 10 ^ k := by
          have : 2 * 2 ^ 52 + 1 = 2 ^ 53 + 1 := by decide
          rw [this, Nat.add_mul, Nat.one_mul]
        omega
      have hs := short_pow hn (by omega) (by omega) hlo hhi
      obtain ⟨hok, -, -⟩ := okA (l - 1) (by omega) (by omega)
      obtain ⟨k1, k2, k3, k4, k5, k6, k7, k8⟩ := okT_spec hok
      have hsb := (s_big (l - 1) (by omega) (by omega)).2
      simp only at hs
      obtain ⟨s1, s2, s3, s4, s5⟩ := hs
      rw [d_ten s1] at s2 s4 s5
      have ex1 : (2 : Nat) ^ 63 - 2 ^ 9 = 9223372036854775296 := by decide
      have ex2 : (2 : Nat) ^ 63 + 2 ^ 10 = 9223372036854776832 := by decide
      rw [ex1] at s2
      rw [ex2] at s3 s4 s5
      refine ⟨1075 - (l - 1), 0, l - 1, pA (l - 1), usc 9223372036854775296 (pA (l - 1)) (l - 1 + 8 - lp (pA (l - 1))), usc 9223372036854776832 (pA (l - 1)) (l - 1 + 8 - lp (pA (l - 1))), 0, n * 10 ^ (pA (l - 1) - 1 - k), ?_⟩
      refine ⟨?_, by omega, by omega, by omega, by omega, s1, rfl, ?_, ?_, s2, s3, s4, s5, .inr ⟨rfl, rfl, rfl, rfl, rfl⟩⟩
      · rw [hmag, e52, e53]; omega
      · exact usc_small (by decide) k6 k7 hsb
      · exact usc_small (by decide) k6 k7 hsb
  · have hMe : M = 2 ^ 52 := Nat.le_antisymm hMge M1
    subst hMe
    obtain ⟨r1, r2, -⟩ := hr
    have hlo : (4 * 2 ^ 52 - 1) * 10 ^ k ≤ 4 * (n * 2 ^ l) := by
      have e1 : (4 * 2 ^ 52 - 1) * 10 ^ k ≤ 4 * 2 ^ 52 * 10 ^ k := Nat.mul_le_mul_right _ (Nat.sub_le _ _)
      rw [Nat.mul_assoc] at e1
      omega
    have hs := short_pow hn hl83 (by omega) hlo r1
    obtain ⟨hok, -, -⟩ := okA l hl83 (by omega)
    obtain ⟨k1, k2, k3, k4, k5, k6, k7, k8⟩ := okT_spec hok
    have hsb := (s_big l hl83 (by omega)).2
    simp only at hs
    obtain ⟨s1, s2, s3, s4, s5⟩ := hs
    rw [d_ten s1] at s2 s4 s5
    have ex1 : (2 : Nat) ^ 63 - 2 ^ 9 = 9223372036854775296 := by decide
    have ex2 : (2 : Nat) ^ 63 + 2 ^ 10 = 9223372036854776832 := by decide
    rw [ex1] at s2
    rw [ex2] at s3 s4 s5
    refine ⟨1075 - l, 0, l, pA l, usc 9223372036854775296 (pA l) (l + 8 - lp (pA l)), usc 9223372036854776832 (pA l) (l + 8 - lp (pA l)), 0, n * 10 ^ (pA l - 1 - k), ?_⟩
    refine ⟨?_, by omega, by omega, by omega, hl83, s1, rfl, ?_, ?_, s2, s3, s4, s5, .inr ⟨rfl, rfl, rfl, rfl, rfl⟩⟩
    · rw [hmag, e52]; omega
    · exact usc_small (by decide) k6 k7 hsb
    · exact usc_small (by decide) k6 k7 hsb
end Go.Proofs.YtokmkkkanphihaaGreatRDoor.Fl
