/- Numbers of few digits, as spec.IsShort finds them: plain facts on words of floats. No program in sight. -/
import Derived.Test.YtokmkkkanphihaaGreatRDoorFloatB
import Derived.Laws.FloatArith
import Derived.Laws.Cover2
namespace Go.Proofs.YtokmkkkanphihaaGreatRDoor.Fl
open Go Ieee

/-- The significand and the place of a positive word, in units of the least place. -/
def vmag (a : Nat) : Nat := if a < 2 ^ 52 then a else 2 ^ 52 + a % 2 ^ 52
def vplc (a : Nat) : Nat := a / 2 ^ 52 - 1
def vv (a : Nat) : Nat := vmag a * 2 ^ vplc a

theorem read_pos {a : Nat} (h : a < 2047 * 2 ^ 52) : double.read a = .number false (vmag a) (-1074 + (vplc a : Int)) := by
  unfold Format.read
  rw [dsw, dbin, dinf, dlp]
  have e1 : a / 2 ^ 63 = 0 := Nat.div_eq_of_lt (by omega)
  have e2 : a % 2 ^ 63 = a := Nat.mod_eq_of_lt (by omega)
  simp only [e1, e2]
  unfold vmag vplc
  by_cases h1 : a < 2 ^ 52
  · rw [if_pos h1, if_pos h1]
    have : a / 2 ^ 52 = 0 := Nat.div_eq_of_lt h1
    rw [this]
    rfl
  · rw [if_neg h1, if_neg h1, if_pos h]
    rfl

theorem read_neg {a : Nat} (h : a < 2047 * 2 ^ 52) : double.read (a + 2 ^ 63) = .number true (vmag a) (-1074 + (vplc a : Int)) := by
  unfold Format.read
  rw [dsw, dbin, dinf, dlp]
  have e1 : (a + 2 ^ 63) / 2 ^ 63 = 1 := by omega
  have e2 : (a + 2 ^ 63) % 2 ^ 63 = a := by omega
  simp only [e1, e2]
  unfold vmag vplc
  by_cases h1 : a < 2 ^ 52
  · rw [if_pos h1, if_pos h1]
    have : a / 2 ^ 52 = 0 := Nat.div_eq_of_lt h1
    rw [this]
    rfl
  · rw [if_neg h1, if_neg h1, if_pos h]
    rfl

theorem vv_succ (a : Nat) : vv a < vv (a + 1) := by
  unfold vv vmag vplc
  by_cases h1 : a + 1 < 2 ^ 52
  · rw [if_pos (by omega), if_pos h1, Nat.div_eq_of_lt h1, Nat.div_eq_of_lt (by omega : a < 2 ^ 52)]
    simp
  · by_cases h2 : a + 1 = 2 ^ 52
    · rw [if_pos (by omega), if_neg h1, h2, Nat.div_eq_of_lt (by omega : a < 2 ^ 52)]
      simp
      omega
    · rw [if_neg (by omega), if_neg h1]
      obtain ⟨q, hq⟩ : ∃ q, a / 2 ^ 52 = q + 1 := ⟨a / 2 ^ 52 - 1, by omega⟩
      by_cases h3 : a % 2 ^ 52 + 1 < 2 ^ 52
      · have e1 : (a + 1) / 2 ^ 52 = q + 1 := by omega
        have e2 : (a + 1) % 2 ^ 52 = a % 2 ^ 52 + 1 := by omega
        rw [hq, e1, e2]
        exact Nat.mul_lt_mul_of_pos_right (by omega) (Nat.two_pow_pos _)
      · have e1 : (a + 1) / 2 ^ 52 = q + 2 := by omega
        have e2 : (a + 1) % 2 ^ 52 = 0 := by omega
        have e3 : a % 2 ^ 52 = 2 ^ 52 - 1 := by omega
        rw [hq, e1, e2, e3]
        have e4 : q + 2 - 1 = q + 1 := by omega
        have e5 : q + 1 - 1 = q := by omega
        have e6 : 2 ^ (q + 1) = 2 ^ q * 2 := Nat.pow_succ 2 q
        rw [e4, e5, e6]
        have hp : 0 < 2 ^ q := Nat.two_pow_pos _
        clear e6
        generalize 2 ^ q = p at *
        omega

theorem vv_lt {a b : Nat} (h : a < b) : vv a < vv b := by
  induction b with
  | zero => omega
  | succ b ih =>
    rcases Nat.lt_or_ge a b with h1 | h1
    · exact Nat.lt_trans (ih h1) (vv_succ b)
    · have : a = b := by omega
      subst this
      exact vv_succ a

theorem vv_lt_iff {a b : Nat} : vv a < vv b ↔ a < b := by
  constructor
  · intro h
    rcases Nat.lt_or_ge a b with h1 | h1
    · exact h1
    · rcases Nat.lt_or_ge b a with h2 | h2
      · have := vv_lt h2; omega
      · have : a = b := by omega
        subst this; omega
  · exact vv_lt

theorem vv_inj {a b : Nat} (h : vv a = vv b) : a = b := by
  rcases Nat.lt_or_ge a b with h1 | h1
  · have := vv_lt h1; omega
  · rcases Nat.lt_or_ge b a with h2 | h2
    · have := vv_lt h2; omega
    · omega

theorem cmp_int (x y : Int) : compare x y = if x < y then .lt else if x = y then .eq else .gt := rfl

/-- How two positive words stand to each other. -/
theorem order_pos {a b : Nat} (ha : a < 2047 * 2 ^ 52) (hb : b < 2047 * 2 ^ 52) : double.order a b = some (if a < b then .lt else if a = b then .eq else .gt) := by
  unfold Format.order
  rw [read_pos ha, read_pos hb]
  unfold Datum.order
  simp only [signed]
  have e1 : (-1074 + (vplc a : Int) - min (-1074 + (vplc a : Int)) (-1074 + (vplc b : Int))).toNat = vplc a - min (vplc a) (vplc b) := by omega
  have e2 : (-1074 + (vplc b : Int) - min (-1074 + (vplc a : Int)) (-1074 + (vplc b : Int))).toNat = vplc b - min (vplc a) (vplc b) := by omega
  rw [e1, e2, cmp_int]
  simp only [Bool.false_eq_true, if_false]
  have hva : vv a = (vmag a <<< (vplc a - min (vplc a) (vplc b))) * 2 ^ min (vplc a) (vplc b) := by
    unfold vv
    rw [Nat.shiftLeft_eq, Nat.mul_assoc, ← Nat.pow_add]
    congr 2
    omega
  have hvb : vv b = (vmag b <<< (vplc b - min (vplc a) (vplc b))) * 2 ^ min (vplc a) (vplc b) := by
    unfold vv
    rw [Nat.shiftLeft_eq, Nat.mul_assoc, ← Nat.pow_add]
    congr 2
    omega
  have hp : 0 < 2 ^ min (vplc a) (vplc b) := Nat.two_pow_pos _
  generalize vmag a <<< (vplc a - min (vplc a) (vplc b)) = x at *
  generalize vmag b <<< (vplc b - min (vplc a) (vplc b)) = y at *
  generalize 2 ^ min (vplc a) (vplc b) = p at *
  have h1 : a < b ↔ x < y := by
    rw [← vv_lt_iff, hva, hvb]
    exact Nat.mul_lt_mul_right hp
  have h2 : a = b ↔ x = y := by
    constructor
    · rintro rfl
      have : x * p = y * p := hva.symm.trans hvb
      exact Nat.eq_of_mul_eq_mul_right hp this
    · rintro rfl
      exact vv_inj (hva.trans hvb.symm)
  congr 1
  by_cases h : a < b
  · rw [if_pos h, if_pos (by have := h1.1 h; omega)]
  · have h' : ¬ x < y := fun hx => h (h1.2 hx)
    rw [if_neg h, if_neg (by omega)]
    by_cases hq : a = b
    · rw [if_pos hq, if_pos (by rw [h2.1 hq])]
    · have h'' : ¬ x = y := fun hx => hq (h2.2 hx)
      rw [if_neg hq, if_neg (by omega)]

theorem order_eq_pos {a b : Nat} (ha : a < 2047 * 2 ^ 52) (hb : b < 2047 * 2 ^ 52) (h : (double.order a b == some .eq) = true) : a = b := by
  rw [order_pos ha hb] at h
  by_cases h1 : a < b
  · rw [if_pos h1] at h; cases h
  · rw [if_neg h1] at h
    by_cases h2 : a = b
    · exact h2
    · rw [if_neg h2] at h; cases h

/-- The word of a number that is kept in 53 digits, Q places up. -/
theorem vv_rung {Q K : Nat} (hK : K ≤ 2 ^ 53) (hQ : Q = 0 ∨ 2 ^ 52 ≤ K) : vv (Q * 2 ^ 52 + K) = K * 2 ^ Q := by
  unfold vv vmag vplc
  by_cases h1 : K < 2 ^ 52
  · have : Q = 0 := by omega
    subst this
    rw [if_pos (by omega), Nat.div_eq_of_lt (by omega)]
    simp
  · rw [if_neg (by omega)]
    by_cases h2 : K < 2 ^ 53
    · have e1 : (Q * 2 ^ 52 + K) / 2 ^ 52 = Q + 1 := by omega
      have e2 : (Q * 2 ^ 52 + K) % 2 ^ 52 = K - 2 ^ 52 := by omega
      rw [e1, e2]
      have e3 : Q + 1 - 1 = Q := by omega
      have e4 : 2 ^ 52 + (K - 2 ^ 52) = K := by omega
      rw [e3, e4]
    · have hk : K = 2 ^ 53 := by omega
      subst hk
      have e1 : (Q * 2 ^ 52 + 2 ^ 53) / 2 ^ 52 = Q + 2 := by omega
      have e2 : (Q * 2 ^ 52 + 2 ^ 53) % 2 ^ 52 = 0 := by omega
      rw [e1, e2]
      have e3 : Q + 2 - 1 = Q + 1 := by omega
      have e6 : 2 ^ (Q + 1) = 2 ^ Q * 2 := Nat.pow_succ 2 Q
      rw [e3, e6]
      clear e6
      generalize 2 ^ Q = p
      omega

theorem cut_le (n drop : Nat) (h : drop ≤ n.log2 + 2) : Toward.even.cut false n drop * 2 ^ drop ≤ n + 2 ^ drop := by
  rw [cut_even n drop h]
  have hp : 0 < 2 ^ drop := Nat.two_pow_pos _
  have h1 : n / 2 ^ drop * 2 ^ drop ≤ n := Nat.div_mul_le_self _ _
  rw [Nat.add_mul]
  generalize 2 ^ drop = p at *
  split
  · omega
  · omega

theorem cut_bounds (n drop : Nat) (h : drop ≤ n.log2 + 2) : n / 2 ^ drop ≤ Toward.even.cut false n drop ∧ Toward.even.cut false n drop ≤ n / 2 ^ drop + 1 := by
  rw [cut_even n drop h]
  split <;> omega

/-- The word nearest to mag * 2 ^ (P - 1074), where it is not great: what it stands for. -/
theorem near_val {mag P : Nat} (hm : 0 < mag) (hP : P + mag.log2 ≤ 1200) : ∃ rung, double.nearest false mag (-1074 + (P : Int)) = rung ∧ rung < 2047 * 2 ^ 52 ∧ vv rung ≤ mag * 2 ^ P + 2 ^ (P + mag.log2 - 52) := by
  have hl := log2_bounds hm
  generalize hL : mag.log2 = L at *
  obtain ⟨Q, hQ⟩ : ∃ Q : Nat, Q = P + L - 52 := ⟨_, rfl⟩
  have hlast : max (-1074 + (P : Int) + L - (52 : Nat)) (-1074) = (Q : Int) - 1074 := by omega
  have hup : (-1074 + (P : Int) - ((Q : Int) - 1074)).toNat = P - Q := by omega
  have hdn : (((Q : Int) - 1074) - (-1074 + (P : Int))).toNat = Q - P := by omega
  have hrung : double.nearest false mag (-1074 + (P : Int)) = min (Q * 2 ^ 52 + Toward.even.cut false (mag <<< (P - Q)) (Q - P)) (2047 * 2 ^ 52) := by
    unfold Format.nearest
    rw [if_neg (by omega), dlp, dfb, dbin, dinf, hL]
    simp only [hlast, hup, hdn]
    have e4 : ((Q : Int) - 1074 - -1074).toNat = Q := by omega
    rw [e4]
    unfold Format.word
    rw [if_neg (by decide)]
  have hs : mag <<< (P - Q) = mag * 2 ^ (P - Q) := Nat.shiftLeft_eq _ _
  rw [hs] at hrung
  have hpos : 0 < mag * 2 ^ (P - Q) := Nat.mul_pos hm (Nat.two_pow_pos _)
  have hlog : (mag * 2 ^ (P - Q)).log2 = L + (P - Q) := by
    refine log2_of ?_ ?_
    · rw [Nat.pow_add]; exact Nat.mul_le_mul_right _ hl.1
    · rw [show L + (P - Q) + 1 = (L + 1) + (P - Q) by omega, Nat.pow_add]; exact Nat.mul_lt_mul_of_pos_right hl.2 (Nat.two_pow_pos _)
  have hdrop : Q - P ≤ (mag * 2 ^ (P - Q)).log2 + 2 := by rw [hlog]; omega
  have hc1 := cut_bounds (mag * 2 ^ (P - Q)) (Q - P) hdrop
  have hc2 := cut_le (mag * 2 ^ (P - Q)) (Q - P) hdrop
  generalize hK : Toward.even.cut false (mag * 2 ^ (P - Q)) (Q - P) = K at *
  have hdiv : mag * 2 ^ (P - Q) / 2 ^ (Q - P) < 2 ^ 53 := by
    rw [Nat.div_lt_iff_lt_mul (Nat.two_pow_pos _), ← Nat.pow_add]
    have h1 : mag * 2 ^ (P - Q) < 2 ^ (L + 1) * 2 ^ (P - Q) := Nat.mul_lt_mul_of_pos_right hl.2 (Nat.two_pow_pos _)
    rw [← Nat.pow_add] at h1
    exact Nat.lt_of_lt_of_le h1 (Nat.pow_le_pow_right (by decide) (by omega))
  have hK53 : K ≤ 2 ^ 53 := by omega
  have hQK : Q = 0 ∨ 2 ^ 52 ≤ K := by
    rcases Nat.eq_zero_or_pos Q with h0 | h0
    · exact .inl h0
    · right
      refine Nat.le_trans ?_ hc1.1
      rw [Nat.le_div_iff_mul_le (Nat.two_pow_pos _), ← Nat.pow_add]
      have h1 : 2 ^ L * 2 ^ (P - Q) ≤ mag * 2 ^ (P - Q) := Nat.mul_le_mul_right _ hl.1
      rw [← Nat.pow_add] at h1
      exact Nat.le_trans (Nat.pow_le_pow_right (by decide) (by omega)) h1
  have hlt : Q * 2 ^ 52 + K < 2047 * 2 ^ 52 := by omega
  refine ⟨Q * 2 ^ 52 + K, ?_, hlt, ?_⟩
  · rw [hrung]; exact Nat.min_eq_left (by omega)
  · rw [vv_rung hK53 hQK, ← hQ]
    have h1 : K * 2 ^ (Q - P) * 2 ^ P ≤ (mag * 2 ^ (P - Q) + 2 ^ (Q - P)) * 2 ^ P := Nat.mul_le_mul_right _ hc2
    rcases Nat.le_total P Q with hpq | hpq
    · have e1 : P - Q = 0 := by omega
      have e2 : 2 ^ (Q - P) * 2 ^ P = 2 ^ Q := by rw [← Nat.pow_add]; congr 1; omega
      rw [Nat.mul_assoc, e2, Nat.add_mul, e2, e1] at h1
      simpa using h1
    · have e1 : Q - P = 0 := by omega
      have e2 : 2 ^ (P - Q) * 2 ^ Q = 2 ^ P := by rw [← Nat.pow_add]; congr 1; omega
      rw [e1] at hc2
      have h3 : K * 2 ^ Q ≤ (mag * 2 ^ (P - Q) + 1) * 2 ^ Q := Nat.mul_le_mul_right _ (by simpa using hc2)
      rw [Nat.add_mul, Nat.mul_assoc, e2] at h3
      simpa using h3

set_option exponentiation.threshold 2000 in
/-- A positive word made whole, towards nought. -/
theorem toInt_pos {a : Nat} (h : a < 2047 * 2 ^ 52) : (double.read a).toInt .zero = some ((vv a / 2 ^ 1074 : Nat) : Int) := by
  rw [read_pos h]
  unfold Datum.toInt Datum.integral
  simp only [signed, Bool.false_eq_true, if_false, Nat.shiftLeft_zero]
  congr 2
  unfold Toward.cut
  simp only [Bool.toNat_false, Nat.add_zero, Nat.shiftLeft_eq, Nat.one_mul]
  unfold vv
  generalize vmag a = m
  generalize vplc a = p
  rcases Nat.le_total 1074 p with hp | hp
  · have e1 : (-1074 + (p : Int)).toNat = p - 1074 := by omega
    have e2 : (-(-1074 + (p : Int))).toNat = 0 := by omega
    rw [e1, e2, Nat.zero_min, Nat.pow_zero, Nat.div_one]
    have e3 : m * 2 ^ p = m * 2 ^ (p - 1074) * 2 ^ 1074 := by rw [Nat.mul_assoc, ← Nat.pow_add]; congr 2; omega
    rw [e3, Nat.mul_div_cancel _ (Nat.two_pow_pos _)]
  · have e1 : (-1074 + (p : Int)).toNat = 0 := by omega
    have e2 : (-(-1074 + (p : Int))).toNat = 1074 - p := by omega
    rw [e1, e2, Nat.pow_zero, Nat.mul_one]
    have e3 : 2 ^ 1074 = 2 ^ (1074 - p) * 2 ^ p := by rw [← Nat.pow_add]; congr 1; omega
    rw [e3, Nat.mul_div_mul_right _ _ (Nat.two_pow_pos _)]
    rcases Nat.le_total (1074 - p) (m.log2 + 2) with hd | hd
    · rw [Nat.min_eq_left hd]
    · rw [Nat.min_eq_right hd]
      have hm : m < 2 ^ (m.log2 + 1) := Nat.lt_log2_self
      have h1 : m < 2 ^ (m.log2 + 2) := Nat.lt_of_lt_of_le hm (Nat.pow_le_pow_right (by decide) (by omega))
      have h2 : m < 2 ^ (1074 - p) := Nat.lt_of_lt_of_le h1 (Nat.pow_le_pow_right (by decide) hd)
      rw [Nat.div_eq_of_lt h1, Nat.div_eq_of_lt h2]

theorem half_read : double.read 4602678819172646912 = .number false (2 ^ 52) (-1074 + ((1021 : Nat) : Int)) := by decide +kernel
theorem w15_val : vv 4831355200913801216 = 10 ^ 15 * 2 ^ 1074 := by decide +kernel

theorem pow_up (a : Nat) : ∃ u : Nat, 0 < u ∧ 2 ^ a = u ∧ 2 ^ (2 + a) = 4 * u ∧ 2 ^ (3 + a) = 8 * u ∧ 2 ^ (53 + a) = 9007199254740992 * u := by
  refine ⟨2 ^ a, Nat.two_pow_pos _, rfl, ?_, ?_, ?_⟩
  · rw [Nat.pow_add]
  · rw [Nat.pow_add]
  · rw [Nat.pow_add]

set_option exponentiation.threshold 2000 in
theorem pow_facts : ∃ u : Nat, 0 < u ∧ 2 ^ 1071 = u ∧ 2 ^ 1073 = 4 * u ∧ 2 ^ 1074 = 8 * u ∧ 2 ^ 1124 = 9007199254740992 * u := pow_up 1071

set_option exponentiation.threshold 2000 in
/-- A number below 10^15, a half more, made whole. -/
theorem half_up {y : Nat} (hy : y < 4831355200913801216) : ∃ y2 n, double.add y 4602678819172646912 = some y2 ∧ floatToIntVal .f64 y2 .u64 = some ((n : Nat) : Int) ∧ n ≤ 10 ^ 15 := by
  have hyi : y < 2047 * 2 ^ 52 := by omega
  have hv : vv y < 10 ^ 15 * 2 ^ 1074 := by rw [← w15_val]; exact vv_lt hy
  have hsum : (double.read y).sum (double.read 4602678819172646912) = some (.number false (vmag y * 2 ^ (vplc y - min (vplc y) 1021) + 2 ^ 52 * 2 ^ (1021 - min (vplc y) 1021)) (-1074 + ((min (vplc y) 1021 : Nat) : Int))) := by
    rw [read_pos hyi, half_read]
    unfold Datum.sum
    simp only [signed, Bool.false_eq_true, if_false]
    have e0 : min (-1074 + (vplc y : Int)) (-1074 + ((1021 : Nat) : Int)) = -1074 + ((min (vplc y) 1021 : Nat) : Int) := by omega
    rw [e0]
    have e1 : (-1074 + (vplc y : Int) - (-1074 + ((min (vplc y) 1021 : Nat) : Int))).toNat = vplc y - min (vplc y) 1021 := by omega
    have e2 : (-1074 + ((1021 : Nat) : Int) - (-1074 + ((min (vplc y) 1021 : Nat) : Int))).toNat = 1021 - min (vplc y) 1021 := by omega
    rw [e1, e2, Nat.shiftLeft_eq, Nat.shiftLeft_eq]
    have hp : 0 < 2 ^ 52 * 2 ^ (1021 - min (vplc y) 1021) := Nat.mul_pos (by decide) (Nat.two_pow_pos _)
    generalize vmag y * 2 ^ (vplc y - min (vplc y) 1021) = A at *
    generalize 2 ^ 52 * 2 ^ (1021 - min (vplc y) 1021) = B at *
    have h1 : ¬ ((A : Int) + (B : Int) = 0) := by omega
    have h2 : ¬ ((A : Int) + (B : Int) < 0) := by omega
    have h3 : ((A : Int) + (B : Int)).natAbs = A + B := by omega
    rw [if_neg h1, h3]
    simp [h2]
  have htot : (vmag y * 2 ^ (vplc y - min (vplc y) 1021) + 2 ^ 52 * 2 ^ (1021 - min (vplc y) 1021)) * 2 ^ min (vplc y) 1021 = vv y + 2 ^ 1073 := by
    have a1 : vplc y - min (vplc y) 1021 + min (vplc y) 1021 = vplc y := by omega
    have a2 : 52 + (1021 - min (vplc y) 1021 + min (vplc y) 1021) = 1073 := by omega
    rw [Nat.add_mul, Nat.mul_assoc, Nat.mul_assoc, ← Nat.pow_add, ← Nat.pow_add, a1, ← Nat.pow_add, a2]
    unfold vv
    rfl
  have hpos : 0 < vmag y * 2 ^ (vplc y - min (vplc y) 1021) + 2 ^ 52 * 2 ^ (1021 - min (vplc y) 1021) := by
    have : 0 < 2 ^ 52 * 2 ^ (1021 - min (vplc y) 1021) := Nat.mul_pos (by decide) (Nat.two_pow_pos _)
    omega
  generalize vmag y * 2 ^ (vplc y - min (vplc y) 1021) + 2 ^ 52 * 2 ^ (1021 - min (vplc y) 1021) = mag at *
  generalize min (vplc y) 1021 = P at *
  obtain ⟨u, hu, hu1, hu2, hu3, hu4⟩ := pow_facts
  have hlog : P + mag.log2 < 1124 := by
    have hl := log2_bounds hpos
    have h1 : 2 ^ mag.log2 * 2 ^ P ≤ mag * 2 ^ P := Nat.mul_le_mul_right _ hl.1
    rw [← Nat.pow_add, htot] at h1
    have h2 : 2 ^ (mag.log2 + P) < 2 ^ 1124 := by
      refine Nat.lt_of_le_of_lt h1 ?_
      rw [hu4, hu2]
      rw [hu3] at hv
      have e15 : (10 : Nat) ^ 15 = 1000000000000000 := by decide
      rw [e15] at hv
      clear hu1 hu2 hu3 hu4 h1 htot hl e15 hsum
      generalize vv y = z at *
      omega
    have := (Nat.pow_lt_pow_iff_right (by decide : 1 < 2)).1 h2
    omega
  obtain ⟨rung, hr, hri, hrv⟩ := near_val (P := P) hpos (by omega)
  have hadd : double.add y 4602678819172646912 = some rung := by
    unfold Format.add
    rw [hsum]
    exact congrArg some hr
  have hle : vv rung < (10 ^ 15 + 1) * 2 ^ 1074 := by
    refine Nat.lt_of_le_of_lt hrv ?_
    rw [htot]
    have h3 : 2 ^ (P + mag.log2 - 52) ≤ 2 ^ 1071 := Nat.pow_le_pow_right (by decide) (by omega)
    rw [hu1] at h3
    rw [hu3] at hv
    rw [hu2, hu3]
    have e15 : (10 : Nat) ^ 15 = 1000000000000000 := by decide
    rw [e15] at hv ⊢
    clear hu1 hu2 hu3 hu4 htot hsum e15 hrv hadd
    generalize 2 ^ (P + mag.log2 - 52) = z at *
    generalize vv y = z2 at *
    omega
  have hn : vv rung / 2 ^ 1074 < 10 ^ 15 + 1 := (Nat.div_lt_iff_lt_mul (Nat.two_pow_pos _)).2 hle
  refine ⟨rung, vv rung / 2 ^ 1074, hadd, ?_, by omega⟩
  unfold floatToIntVal
  have hread : FloatKind.f64.decode rung = double.read rung := rfl
  rw [hread, toInt_pos hri]
  generalize vv rung / 2 ^ 1074 = n at *
  have e15 : (10 : Nat) ^ 15 = 1000000000000000 := by decide
  rw [e15] at hn
  have hmin : IntKind.u64.min = 0 := by decide
  have hmax : IntKind.u64.max = 18446744073709551615 := by decide
  simp only [hmin, hmax]
  rw [if_pos (by omega)]

/-- A quotient stays where both are ten times as great. -/
theorem div_ten {a b : Nat} (ha : 0 < a) (ha2 : 10 * a < 2 ^ 53) (hb : 0 < b) (hb2 : 10 * b < 2 ^ 53) : double.div (ofN (10 * a)) (ofN (10 * b)) = double.div (ofN a) (ofN b) := by
  obtain ⟨l1, h1, h2, h3, h4⟩ := div_ofN (a := 10 * a) (b := 10 * b) (by omega) ha2 (by omega) hb2
  obtain ⟨l2, k1, k2, k3, k4⟩ := div_ofN (a := a) (b := b) ha (by omega) hb (by omega)
  have hl : l1 = l2 := by
    have p1 : 2 ^ 52 * b ≤ a * 2 ^ l1 := by
      have : 10 * (2 ^ 52 * b) ≤ 10 * (a * 2 ^ l1) := by
        calc 10 * (2 ^ 52 * b) = 2 ^ 52 * (10 * b) := by rw [Nat.mul_left_comm]
          _ ≤ 10 * a * 2 ^ l1 := h2
          _ = 10 * (a * 2 ^ l1) := Nat.mul_assoc _ _ _
      omega
    have p2 : a * 2 ^ l1 < 2 ^ 53 * b := by
      have : 10 * (a * 2 ^ l1) < 10 * (2 ^ 53 * b) := by
        calc 10 * (a * 2 ^ l1) = 10 * a * 2 ^ l1 := (Nat.mul_assoc _ _ _).symm
          _ < 2 ^ 53 * (10 * b) := h3
          _ = 10 * (2 ^ 53 * b) := by rw [Nat.mul_left_comm]
      omega
    rcases Nat.lt_trichotomy l1 l2 with h | h | h
    · exfalso
      have q : a * 2 ^ (l1 + 1) ≤ a * 2 ^ l2 := Nat.mul_le_mul_left _ (Nat.pow_le_pow_right (by decide) (by omega))
      rw [Nat.pow_succ, ← Nat.mul_assoc] at q
      generalize a * 2 ^ l1 = x at *
      generalize a * 2 ^ l2 = y at *
      omega
    · exact h
    · exfalso
      have q : a * 2 ^ (l2 + 1) ≤ a * 2 ^ l1 := Nat.mul_le_mul_left _ (Nat.pow_le_pow_right (by decide) (by omega))
      rw [Nat.pow_succ, ← Nat.mul_assoc] at q
      generalize a * 2 ^ l1 = x at *
      generalize a * 2 ^ l2 = y at *
      omega
  subst hl
  rw [h4, k4]
  congr 2
  have e1 : 10 * a * 2 ^ l1 = (a * 2 ^ l1) * 10 := by rw [Nat.mul_assoc, Nat.mul_comm]
  rw [e1, Nat.mul_comm 10 b, rhe_scale _ _ _ (by decide)]

/-- ten(k), a word. -/
def tenW (k : Nat) : Nat := ofN (10 ^ k)
theorem ten_mul : ∀ k, k < 15 → double.mul (tenW k) 4621819117588971520 = some (tenW (k + 1)) := by decide +kernel
theorem ten_zero : tenW 0 = 4607182418800017408 := by decide +kernel

theorem pow10_lt {k : Nat} (h : k ≤ 15) : 10 ^ k < 2 ^ 53 := Nat.lt_of_le_of_lt (Nat.pow_le_pow_right (by decide) h) (by decide)

/-- The quotient of a whole number by a power of ten. -/
theorem div_some {n k : Nat} (hn : n ≤ 10 ^ 15) (hk : k ≤ 15) : ∃ q, double.div (ofN n) (tenW k) = some q ∧ q < 2047 * 2 ^ 52 ∧ (n = 0 → q = 0) ∧ (0 < n → 0 < q) := by
  have h53 : (10 : Nat) ^ 15 < 2 ^ 53 := by decide
  rcases Nat.eq_zero_or_pos n with h | h
  · subst h
    have : ∀ k, k ≤ 15 → double.div (ofN 0) (tenW k) = some 0 := by decide +kernel
    exact ⟨0, this k hk, by decide, fun _ => rfl, fun h => by omega⟩
  · obtain ⟨l, h1, h2, h3, h4⟩ := div_ofN (a := n) (b := 10 ^ k) h (by omega) (Nat.pow_pos (by decide)) (pow10_lt hk)
    have hb : 0 < 10 ^ k := Nat.pow_pos (by decide)
    have hr := rhe_bounds (n * 2 ^ l) (10 ^ k) (2 ^ 52) (2 ^ 53) hb h2 h3
    refine ⟨_, h4, ?_, fun h => by omega, fun _ => by omega⟩
    have : (1074 - l) * 2 ^ 52 ≤ 1074 * 2 ^ 52 := Nat.mul_le_mul_right _ (by omega)
    omega

/-- A number of few digits has a form in which no digit behind the point is too many. -/
theorem norm_form {n k mag : Nat} (hn0 : 0 < n) (hn : n ≤ 10 ^ 15) (hk : k ≤ 9) (hnk : n = 10 ^ 15 → 0 < k) (h : double.div (ofN n) (ofN (10 ^ k)) = some mag) :
    ∃ m j, 0 < m ∧ m < 10 ^ 15 ∧ j ≤ 9 ∧ (j = 0 ∨ m % 10 ≠ 0) ∧ double.div (ofN m) (ofN (10 ^ j)) = some mag := by
  have e15 : (10 : Nat) ^ 15 = 1000000000000000 := by decide
  induction k generalizing n with
  | zero =>
    refine ⟨n, 0, hn0, ?_, by omega, .inl rfl, h⟩
    rcases Nat.lt_or_ge n (10 ^ 15) with h' | h'
    · exact h'
    · exact absurd (hnk (by omega)) (by omega)
  | succ k ih =>
    by_cases h10 : n % 10 = 0
    · obtain ⟨m, rfl⟩ : ∃ m, n = 10 * m := ⟨n / 10, by omega⟩
      have hp : 10 ^ (k + 1) = 10 * 10 ^ k := by rw [Nat.pow_succ, Nat.mul_comm]
      rw [hp, div_ten (by omega) (by omega) (Nat.pow_pos (by decide)) (by rw [← hp]; exact pow10_lt (by omega))] at h
      exact ih (by omega) (by omega) (by omega) (by omega) h
    · refine ⟨n, k + 1, hn0, ?_, hk, .inr h10, h⟩
      rcases Nat.lt_or_ge n (10 ^ 15) with h' | h'
      · exact h'
      · exfalso
        apply h10
        have : n = 10 ^ 15 := by omega
        rw [this]

theorem one15 : double.mul (ofN (10 ^ 15)) (tenW 0) = some 4831355200913801216 ∧ double.div (ofN (10 ^ 15)) (tenW 0) = some (ofN (10 ^ 15)) ∧ ofN (10 ^ 15) = 4831355200913801216 := by decide +kernel

/-- Multiplication by a power of ten, of a positive number. -/
theorem mul_some {x k : Nat} (hx : x < 2047 * 2 ^ 52) (hk : k ≤ 15) : ∃ y, double.mul x (tenW k) = some y ∧ y ≤ 2047 * 2 ^ 52 := by
  have hr := read_ofN (a := 10 ^ k) (Nat.pow_pos (by decide)) (pow10_lt hk)
  unfold Format.mul tenW
  rw [read_pos hx, hr]
  refine ⟨_, rfl, ?_⟩
  show double.nearest false _ _ ≤ _
  unfold Format.nearest
  split
  · unfold Format.word
    rw [if_neg (by decide)]
    exact Nat.zero_le _
  · unfold Format.word
    rw [if_neg (by decide), dinf]
    exact Nat.min_le_right _ _

theorem order_inf : (double.order (2047 * 2 ^ 52) 4831355200913801216 == some .lt) = false := by decide +kernel

theorem below15 {y : Nat} (hy : y ≤ 2047 * 2 ^ 52) (h : (double.order y 4831355200913801216 == some .lt) = true) : y < 4831355200913801216 := by
  rcases Nat.lt_or_ge y (2047 * 2 ^ 52) with h1 | h1
  · rw [order_pos h1 (by decide)] at h
    by_cases h2 : y < 4831355200913801216
    · exact h2
    · rw [if_neg h2] at h
      split at h
      · cases h
      · cases h
  · have : y = 2047 * 2 ^ 52 := by omega
    rw [this, order_inf] at h
    cases h

/-- WHAT spec.IsShort FINDS of a positive number x: at k, n stands for y = x * 10^k. -/
theorem short_found {x k y n q : Nat} (hx0 : 0 < x) (hx : x < 2047 * 2 ^ 52) (hk : k ≤ 9) (hy : double.mul x (tenW k) = some y) (hlt : (double.order y 4831355200913801216 == some .lt) = true) (hn : n ≤ 10 ^ 15)
    (hq : double.div (ofN n) (tenW k) = some q) (heq : (double.order q x == some .eq) = true) :
    ∃ m j, 0 < m ∧ m < 10 ^ 15 ∧ j ≤ 9 ∧ (j = 0 ∨ m % 10 ≠ 0) ∧ double.div (ofN m) (ofN (10 ^ j)) = some x := by
  obtain ⟨q', hq', hqi, hqz, hqp⟩ := div_some hn (by omega : k ≤ 15)
  rw [hq] at hq'
  injection hq' with hq'
  subst hq'
  have hqx := order_eq_pos hqi hx heq
  subst hqx
  have hn0 : 0 < n := by
    rcases Nat.eq_zero_or_pos n with h | h
    · have := hqz h; omega
    · exact h
  refine norm_form hn0 hn hk (fun h15 => ?_) hq
  rcases Nat.eq_zero_or_pos k with h0 | h0
  · exfalso
    subst h0 h15
    rw [one15.2.1] at hq
    injection hq with hq
    subst hq
    rw [one15.1] at hy
    injection hy with hy
    subst hy
    have : (double.order 4831355200913801216 4831355200913801216 == some .lt) = false := by decide +kernel
    rw [this] at hlt
    cases hlt
  · exact h0
end Go.Proofs.YtokmkkkanphihaaGreatRDoor.Fl
