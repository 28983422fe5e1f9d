/- Float arithmetic of small decimals: what the shortest form of a number with at most fifteen digits is. Plain: no program in sight. -/
import GoSem.Core.Float
namespace Go.Proofs.YtokmkkkanphihaaGreatRDoor.Fl
open Go Ieee


/-- Round half even of A / b. -/
def rhe (A b : Nat) : Nat := A / b + (if b < 2 * (A % b) ∨ (2 * (A % b) = b ∧ A / b % 2 = 1) then 1 else 0)

/-- a as a float64, 0 < a < 2^53 -/
def ofN (a : Nat) : Nat := double.nearest false a 0

theorem log2_bounds {a : Nat} (h : 0 < a) : 2 ^ a.log2 ≤ a ∧ a < 2 ^ (a.log2 + 1) :=
  ⟨Nat.log2_self_le (by omega), Nat.lt_log2_self⟩

theorem log2_lt53 {a : Nat} (h : 0 < a) (h2 : a < 2 ^ 53) : a.log2 ≤ 52 := by
  have := (Nat.log2_lt (by omega)).2 h2
  omega

theorem cut_zero (n : Nat) : Toward.even.cut false n 0 = n := by
  unfold Toward.cut
  simp [Nat.mod_one]

theorem dsw : double.signWeight = 2 ^ 63 := by decide
theorem dbin : double.binade = 2 ^ 52 := rfl
theorem dinf : double.infRung = 2047 * 2 ^ 52 := by decide
theorem dlp : double.leastPlace = -1074 := by decide
theorem dfb : double.fractionBits = 52 := rfl

theorem sig_bounds {a : Nat} (h : 0 < a) (h2 : a < 2 ^ 53) : 2 ^ 52 ≤ a * 2 ^ (52 - a.log2) ∧ a * 2 ^ (52 - a.log2) < 2 ^ 53 := by
  have hl := log2_lt53 h h2
  have hb := log2_bounds h
  constructor
  · calc 2 ^ 52 = 2 ^ a.log2 * 2 ^ (52 - a.log2) := by rw [← Nat.pow_add]; congr 1; omega
      _ ≤ a * 2 ^ (52 - a.log2) := Nat.mul_le_mul_right _ hb.1
  · calc a * 2 ^ (52 - a.log2) < 2 ^ (a.log2 + 1) * 2 ^ (52 - a.log2) := Nat.mul_lt_mul_of_pos_right hb.2 (Nat.two_pow_pos _)
      _ = 2 ^ 53 := by rw [← Nat.pow_add]; congr 1; omega

/-- the word of a positive number whose exponent and significand are found -/
theorem nearest_of (mag : Nat) (place : Int) (E drop kept : Nat) (hm : mag ≠ 0) (hlast : max (place + mag.log2 - (52 : Nat)) (-1074) = (E : Int) - 1074)
    (hup : (place - ((E : Int) - 1074)).toNat = 0) (hdrop : (((E : Int) - 1074) - place).toNat = drop) (hk : Toward.even.cut false mag drop = kept) (hfit : E * 2 ^ 52 + kept ≤ 2047 * 2 ^ 52) :
    double.nearest false mag place = E * 2 ^ 52 + kept := by
  unfold Format.nearest
  rw [if_neg hm, dlp, dfb, dbin, dinf]
  simp only [hlast, hup, hdrop, Nat.shiftLeft_zero, hk]
  have e4 : ((E : Int) - 1074 - -1074).toNat = E := by omega
  rw [e4]
  unfold Format.word
  rw [if_neg (by decide)]
  exact Nat.min_eq_left hfit

theorem fit_aux (k m : Nat) (h : k ≤ 1074 * 2 ^ 52) (h2 : m < 2 ^ 53) : k + m ≤ 2047 * 2 ^ 52 := by omega

theorem ofN_eq {a : Nat} (h : 0 < a) (h2 : a < 2 ^ 53) : ofN a = (1022 + a.log2) * 2 ^ 52 + a * 2 ^ (52 - a.log2) := by
  have hl := log2_lt53 h h2
  have hp := sig_bounds h h2
  unfold ofN Format.nearest
  rw [if_neg (by omega), dlp, dfb, dbin, dinf]
  have e1 : max ((0 : Int) + a.log2 - (52 : Nat)) (-1074) = (a.log2 : Int) - 52 := by omega
  simp only [e1]
  have e2 : ((0 : Int) - ((a.log2 : Int) - 52)).toNat = 52 - a.log2 := by omega
  have e3 : ((a.log2 : Int) - 52 - 0).toNat = 0 := by omega
  have e4 : ((a.log2 : Int) - 52 - -1074).toNat = 1022 + a.log2 := by omega
  rw [e2, e3, e4, cut_zero, Nat.shiftLeft_eq]
  unfold Format.word
  rw [if_neg (by decide)]
  have h3 : (1022 + a.log2) * 2 ^ 52 ≤ 1074 * 2 ^ 52 := Nat.mul_le_mul_right _ (by omega)
  exact Nat.min_eq_left (fit_aux _ _ h3 hp.2)

/-- reading a normal positive word -/
theorem read_normal (E M : Nat) (hE : E ≤ 2045) (h1 : 2 ^ 52 ≤ M) (h2 : M < 2 ^ 53) :
    double.read (E * 2 ^ 52 + M) = .number false M ((E : Int) - 1074) := by
  have hlt : E * 2 ^ 52 + M < 2047 * 2 ^ 52 := by omega
  unfold Format.read
  rw [dsw, dbin, dinf, dlp]
  have e1 : (E * 2 ^ 52 + M) / 2 ^ 63 = 0 := Nat.div_eq_of_lt (by omega)
  have e2 : (E * 2 ^ 52 + M) % 2 ^ 63 = E * 2 ^ 52 + M := Nat.mod_eq_of_lt (by omega)
  have e3 : (E * 2 ^ 52 + M) % 2 ^ 52 = M - 2 ^ 52 := by omega
  have e4 : (E * 2 ^ 52 + M) / 2 ^ 52 = E + 1 := by omega
  simp only [e1, e2, e3, e4]
  rw [if_neg (by omega), if_pos (by omega)]
  have e5 : 2 ^ 52 + (M - 2 ^ 52) = M := by omega
  rw [e5]
  simp
  omega

theorem read_ofN {a : Nat} (h : 0 < a) (h2 : a < 2 ^ 53) : double.read (ofN a) = .number false (a * 2 ^ (52 - a.log2)) ((a.log2 : Int) - 52) := by
  have hl := log2_lt53 h h2
  have hs := sig_bounds h h2
  rw [ofN_eq h h2, read_normal _ _ (by omega) hs.1 hs.2]
  congr 1
  omega



theorem cut_even (n drop : Nat) (h : drop ≤ n.log2 + 2) :
    Toward.even.cut false n drop = n / 2 ^ drop + (if 2 ^ drop < 2 * (n % 2 ^ drop) ∨ (2 * (n % 2 ^ drop) = 2 ^ drop ∧ n / 2 ^ drop % 2 = 1) then 1 else 0) := by
  unfold Toward.cut
  rw [Nat.min_eq_left h]
  simp only [Nat.shiftLeft_eq, Nat.one_mul]
  congr 1
  by_cases h1 : 2 ^ drop < 2 * (n % 2 ^ drop)
  · simp [h1]
  · by_cases h2 : 2 * (n % 2 ^ drop) = 2 ^ drop
    · by_cases h3 : n / 2 ^ drop % 2 = 1
      · simp [h2, h3]
      · simp [h2, h3]
    · have h2' : ¬ 2 ^ drop = 2 * (n % 2 ^ drop) := fun h => h2 h.symm
      simp [h1, h2, h2']

/-- the sticky quotient, three places dropped -/
theorem sticky3 (m n : Nat) (hn : 0 < n) :
    let Q := m * 4 / n
    let mag := 2 * Q + (if m * 4 % n ≠ 0 then 1 else 0)
    mag / 8 + (if 8 < 2 * (mag % 8) ∨ (2 * (mag % 8) = 8 ∧ mag / 8 % 2 = 1) then 1 else 0) = rhe m n := by
  intro Q mag
  have hq : m = n * (m / n) + m % n := (Nat.div_add_mod m n).symm
  have hr : m % n < n := Nat.mod_lt _ hn
  generalize hqq : m / n = q at *
  generalize hrr : m % n = r at *
  -- four r
  have h4 : m * 4 = n * (4 * q) + 4 * r := by rw [hq, Nat.add_mul, Nat.mul_assoc, Nat.mul_comm q 4]; omega
  have hQ : Q = 4 * q + 4 * r / n := by
    show m * 4 / n = _
    rw [h4, Nat.mul_add_div hn]
  have hS : m * 4 % n = 4 * r % n := by
    rw [h4, Nat.mul_add_mod]
  have hd : n * (4 * r / n) + 4 * r % n = 4 * r := Nat.div_add_mod _ _
  have hm4 : 4 * r % n < n := Nat.mod_lt _ hn
  have ht : 4 * r / n < 4 := by
    rw [Nat.div_lt_iff_lt_mul hn]; omega
  have hmag : mag = 8 * q + (2 * (4 * r / n) + (if 4 * r % n ≠ 0 then 1 else 0)) := by
    show 2 * Q + (if m * 4 % n ≠ 0 then 1 else 0) = _
    rw [hQ, hS]; omega
  unfold rhe
  rw [hqq, hrr]
  generalize hT : 4 * r / n = t at *
  generalize hU : 4 * r % n = u at *
  clear_value mag
  clear hQ hS Q
  have hcase : t = 0 ∨ t = 1 ∨ t = 2 ∨ t = 3 := by omega
  by_cases hu : u = 0
  · simp only [hu, ne_eq, not_true_eq_false, if_false, Nat.add_zero] at hmag
    subst hu
    have e1 : mag / 8 = q := by omega
    have e2 : mag % 8 = 2 * t := by omega
    rw [e1, e2]
    congr 1
    have : (8 < 2 * (2 * t) ∨ 2 * (2 * t) = 8 ∧ q % 2 = 1) ↔ (n < 2 * r ∨ 2 * r = n ∧ q % 2 = 1) := by
      rcases hcase with rfl | rfl | rfl | rfl <;> constructor <;> intro h <;> omega
    simp only [this]
  · simp only [ne_eq, hu, not_false_eq_true, if_true] at hmag
    have e1 : mag / 8 = q := by omega
    have e2 : mag % 8 = 2 * t + 1 := by omega
    rw [e1, e2]
    congr 1
    have : (8 < 2 * (2 * t + 1) ∨ 2 * (2 * t + 1) = 8 ∧ q % 2 = 1) ↔ (n < 2 * r ∨ 2 * r = n ∧ q % 2 = 1) := by
      rcases hcase with rfl | rfl | rfl | rfl <;> constructor <;> intro h <;> omega
    simp only [this]

/-- the sticky quotient, two places dropped -/
theorem sticky2 (m n : Nat) (hn : 0 < n) :
    let Q := m * 2 / n
    let mag := 2 * Q + (if m * 2 % n ≠ 0 then 1 else 0)
    mag / 4 + (if 4 < 2 * (mag % 4) ∨ (2 * (mag % 4) = 4 ∧ mag / 4 % 2 = 1) then 1 else 0) = rhe m n := by
  intro Q mag
  have hq : m = n * (m / n) + m % n := (Nat.div_add_mod m n).symm
  have hr : m % n < n := Nat.mod_lt _ hn
  generalize hqq : m / n = q at *
  generalize hrr : m % n = r at *
  have h4 : m * 2 = n * (2 * q) + 2 * r := by rw [hq, Nat.add_mul, Nat.mul_assoc, Nat.mul_comm q 2]; omega
  have hQ : Q = 2 * q + 2 * r / n := by
    show m * 2 / n = _
    rw [h4, Nat.mul_add_div hn]
  have hS : m * 2 % n = 2 * r % n := by
    rw [h4, Nat.mul_add_mod]
  have hd : n * (2 * r / n) + 2 * r % n = 2 * r := Nat.div_add_mod _ _
  have hm4 : 2 * r % n < n := Nat.mod_lt _ hn
  have ht : 2 * r / n < 2 := by
    rw [Nat.div_lt_iff_lt_mul hn]; omega
  have hmag : mag = 4 * q + (2 * (2 * r / n) + (if 2 * r % n ≠ 0 then 1 else 0)) := by
    show 2 * Q + (if m * 2 % n ≠ 0 then 1 else 0) = _
    rw [hQ, hS]; omega
  unfold rhe
  rw [hqq, hrr]
  generalize hT : 2 * r / n = t at *
  generalize hU : 2 * r % n = u at *
  clear_value mag
  clear hQ hS Q
  have hcase : t = 0 ∨ t = 1 := by omega
  by_cases hu : u = 0
  · simp only [hu, ne_eq, not_true_eq_false, if_false, Nat.add_zero] at hmag
    subst hu
    have e1 : mag / 4 = q := by omega
    have e2 : mag % 4 = 2 * t := by omega
    rw [e1, e2]
    congr 1
    have : (4 < 2 * (2 * t) ∨ 2 * (2 * t) = 4 ∧ q % 2 = 1) ↔ (n < 2 * r ∨ 2 * r = n ∧ q % 2 = 1) := by
      rcases hcase with rfl | rfl <;> constructor <;> intro h <;> omega
    simp only [this]
  · simp only [ne_eq, hu, not_false_eq_true, if_true] at hmag
    have e1 : mag / 4 = q := by omega
    have e2 : mag % 4 = 2 * t + 1 := by omega
    rw [e1, e2]
    congr 1
    have : (4 < 2 * (2 * t + 1) ∨ 2 * (2 * t + 1) = 4 ∧ q % 2 = 1) ↔ (n < 2 * r ∨ 2 * r = n ∧ q % 2 = 1) := by
      rcases hcase with rfl | rfl <;> constructor <;> intro h <;> omega
    simp only [this]



theorem log2_of {n k : Nat} (h1 : 2 ^ k ≤ n) (h2 : n < 2 ^ (k + 1)) : n.log2 = k := by
  have hn : n ≠ 0 := by have := Nat.two_pow_pos k; omega
  have a := (Nat.le_log2 hn).2 h1
  have b := (Nat.log2_lt hn).2 h2
  omega

theorem rhe_bounds (A b lo hi : Nat) (hb : 0 < b) (h1 : lo * b ≤ A) (h2 : A < hi * b) : lo ≤ rhe A b ∧ rhe A b ≤ hi := by
  unfold rhe
  have h3 : lo ≤ A / b := (Nat.le_div_iff_mul_le hb).2 h1
  have h4 : A / b < hi := (Nat.div_lt_iff_lt_mul hb).2 h2
  split <;> omega

theorem rhe_scale (A b c : Nat) (hc : 0 < c) : rhe (A * c) (b * c) = rhe A b := by
  unfold rhe
  rw [Nat.mul_div_mul_right _ _ hc, Nat.mul_mod_mul_right]
  congr 1
  have e1 : (b * c < 2 * (A % b * c)) ↔ b < 2 * (A % b) := by
    rw [← Nat.mul_assoc]; exact Nat.mul_lt_mul_right hc
  have e2 : (2 * (A % b * c) = b * c) ↔ 2 * (A % b) = b := by
    rw [← Nat.mul_assoc]
    constructor
    · intro h; exact Nat.eq_of_mul_eq_mul_right hc h
    · intro h; rw [h]
  simp only [e1, e2]

/-- the exact word of a quotient of two significands -/
theorem quot_word (m n : Nat) (i j : Int) (hm1 : 2 ^ 52 ≤ m) (hm2 : m < 2 ^ 53) (hn1 : 2 ^ 52 ≤ n) (hn2 : n < 2 ^ 53)
    (hi : -52 ≤ i) (hi2 : i ≤ 0) (hj : -52 ≤ j) (hj2 : j ≤ 0) :
    ∃ e : Nat, e < 2 ∧ n * 2 ^ 52 ≤ m * 2 ^ (52 + e) ∧ m * 2 ^ (52 + e) < n * 2 ^ 53 ∧
      ((Datum.number false m i).quotient 54 (.number false n j)).map double.write
        = some ((i - j - (52 + e) + 1074).toNat * 2 ^ 52 + rhe (m * 2 ^ (52 + e)) n) := by
  have hlm : m.log2 = 52 := log2_of hm1 hm2
  have hln : n.log2 = 52 := log2_of hn1 hn2
  have hn0 : 0 < n := by omega
  unfold Datum.quotient
  simp only [hlm, hln]
  rw [if_neg (by omega)]
  simp only [Option.map_some, bne_self_eq_false, Nat.add_sub_cancel]
  have hsticky : ∀ x : Nat, (x != 0).toNat = if x ≠ 0 then 1 else 0 := by
    intro x; by_cases h : x = 0 <;> simp [h]
  rw [Nat.shiftLeft_eq, hsticky]
  by_cases hmn : n ≤ m
  · refine ⟨0, by omega, by omega, by omega, ?_⟩
    have hs := sticky3 (m * 2 ^ 52) n hn0
    have e4 : m * 2 ^ 52 * 4 = m * 2 ^ 54 := by omega
    simp only [e4] at hs
    have hQ1 : 2 ^ 54 ≤ m * 2 ^ 54 / n := (Nat.le_div_iff_mul_le hn0).2 (by omega)
    have hQ2 : m * 2 ^ 54 / n < 2 ^ 55 := (Nat.div_lt_iff_lt_mul hn0).2 (by omega)
    generalize hmag : 2 * (m * 2 ^ 54 / n) + (if m * 2 ^ 54 % n ≠ 0 then 1 else 0) = mag at *
    have hmb : 2 ^ 55 ≤ mag ∧ mag < 2 ^ 56 := by
      rw [← hmag]; constructor
      · omega
      · split <;> omega
    have hml : mag.log2 = 55 := log2_of hmb.1 hmb.2
    have hb := rhe_bounds (m * 2 ^ 52) n (2 ^ 52) (2 ^ 53) hn0 (by omega) (by omega)
    have hcut : Toward.even.cut false mag 3 = rhe (m * 2 ^ 52) n := by
      rw [cut_even _ _ (by omega)]; exact hs
    have hw := nearest_of mag (i - j - ((54 : Nat) : Int) - 1) (i - j - 52 + 1074).toNat 3 (rhe (m * 2 ^ 52) n) (by omega) (by rw [hml]; omega) (by omega) (by omega) hcut (by omega)
    exact congrArg some hw
  · refine ⟨1, by omega, by omega, by omega, ?_⟩
    have hs := sticky2 (m * 2 ^ 53) n hn0
    have e4 : m * 2 ^ 53 * 2 = m * 2 ^ 54 := by omega
    simp only [e4] at hs
    have hQ1 : 2 ^ 53 ≤ m * 2 ^ 54 / n := (Nat.le_div_iff_mul_le hn0).2 (by omega)
    have hQ2 : m * 2 ^ 54 / n < 2 ^ 54 := (Nat.div_lt_iff_lt_mul hn0).2 (by omega)
    generalize hmag : 2 * (m * 2 ^ 54 / n) + (if m * 2 ^ 54 % n ≠ 0 then 1 else 0) = mag at *
    have hmb : 2 ^ 54 ≤ mag ∧ mag < 2 ^ 55 := by
      rw [← hmag]; constructor
      · omega
      · split <;> omega
    have hml : mag.log2 = 54 := log2_of hmb.1 hmb.2
    have hb := rhe_bounds (m * 2 ^ 53) n (2 ^ 52) (2 ^ 53) hn0 (by omega) (by omega)
    have hcut : Toward.even.cut false mag 2 = rhe (m * 2 ^ 53) n := by
      rw [cut_even _ _ (by omega)]; exact hs
    have hw := nearest_of mag (i - j - ((54 : Nat) : Int) - 1) (i - j - 53 + 1074).toNat 2 (rhe (m * 2 ^ 53) n) (by omega) (by rw [hml]; omega) (by omega) (by omega) hcut (by omega)
    exact congrArg some hw

/-- THE QUOTIENT OF TWO WHOLE NUMBERS: its word, by its exponent and the rounding of the rational. -/
theorem div_ofN {a b : Nat} (ha : 0 < a) (ha2 : a < 2 ^ 53) (hb : 0 < b) (hb2 : b < 2 ^ 53) :
    ∃ l : Nat, l ≤ 105 ∧ 2 ^ 52 * b ≤ a * 2 ^ l ∧ a * 2 ^ l < 2 ^ 53 * b ∧ double.div (ofN a) (ofN b) = some ((1074 - l) * 2 ^ 52 + rhe (a * 2 ^ l) b) := by
  have sa := sig_bounds ha ha2
  have sb := sig_bounds hb hb2
  have la := log2_lt53 ha ha2
  have lb := log2_lt53 hb hb2
  obtain ⟨e, he, h1, h2, h3⟩ := quot_word (a * 2 ^ (52 - a.log2)) (b * 2 ^ (52 - b.log2)) ((a.log2 : Int) - 52) ((b.log2 : Int) - 52) sa.1 sa.2 sb.1 sb.2 (by omega) (by omega) (by omega) (by omega)
  refine ⟨52 + e + b.log2 - a.log2, by omega, ?_, ?_, ?_⟩
  · have hp : 0 < 2 ^ (52 - b.log2) := Nat.two_pow_pos _
    refine Nat.le_of_mul_le_mul_right ?_ hp
    have e1 : a * 2 ^ (52 + e + b.log2 - a.log2) * 2 ^ (52 - b.log2) = a * 2 ^ (52 - a.log2) * 2 ^ (52 + e) := by
      rw [Nat.mul_assoc, Nat.mul_assoc, ← Nat.pow_add, ← Nat.pow_add]; congr 2; omega
    rw [e1, Nat.mul_assoc, Nat.mul_comm]; exact h1
  · have hp : 0 < 2 ^ (52 - b.log2) := Nat.two_pow_pos _
    refine Nat.lt_of_mul_lt_mul_right (a := 2 ^ (52 - b.log2)) ?_
    have e1 : a * 2 ^ (52 + e + b.log2 - a.log2) * 2 ^ (52 - b.log2) = a * 2 ^ (52 - a.log2) * 2 ^ (52 + e) := by
      rw [Nat.mul_assoc, Nat.mul_assoc, ← Nat.pow_add, ← Nat.pow_add]; congr 2; omega
    rw [e1, Nat.mul_comm (2 ^ 53) b, Nat.mul_right_comm b]; exact h2
  · unfold Format.div
    rw [read_ofN ha ha2, read_ofN hb hb2]
    have e5 : double.fractionBits + 2 = 54 := rfl
    rw [e5, h3]
    have e6 : (((a.log2 : Int) - 52) - ((b.log2 : Int) - 52) - (52 + e) + 1074).toNat = 1074 - (52 + e + b.log2 - a.log2) := by omega
    rw [e6]
    have e7 : rhe (a * 2 ^ (52 - a.log2) * 2 ^ (52 + e)) (b * 2 ^ (52 - b.log2)) = rhe (a * 2 ^ (52 + e + b.log2 - a.log2)) b := by
      rw [← rhe_scale (a * 2 ^ (52 + e + b.log2 - a.log2)) b (2 ^ (52 - b.log2)) (Nat.two_pow_pos _)]
      congr 1
      rw [Nat.mul_assoc, Nat.mul_assoc, ← Nat.pow_add, ← Nat.pow_add]; congr 2; omega
    rw [e7]


/-- floor, with the last bit set where anything is left over -/
def stk (A D : Nat) : Nat := A / D ||| (if A % D = 0 then 0 else 1)

theorem or_one (x : Nat) : x ||| 1 = if x % 2 = 0 then x + 1 else x := by
  rcases Nat.mod_two_eq_zero_or_one x with h | h
  · rw [if_pos h]
    obtain ⟨k, rfl⟩ : ∃ k, x = 2 * k := ⟨x / 2, by omega⟩
    have := Nat.two_pow_add_eq_or_of_lt (i := 1) (b := 1) (by omega) k
    simpa [Nat.mul_comm] using this.symm
  · rw [if_neg (by omega)]
    apply Nat.eq_of_testBit_eq
    intro i
    rw [Nat.testBit_or]
    cases i with
    | zero => simp [Nat.testBit_zero, h]
    | succ i => simp [Nat.testBit_succ]

theorem stk_eq (A D : Nat) : stk A D = A / D + (if A % D ≠ 0 ∧ A / D % 2 = 0 then 1 else 0) := by
  unfold stk
  by_cases h : A % D = 0
  · simp [h]
  · rw [if_neg h, or_one]
    by_cases h2 : A / D % 2 = 0
    · simp [h, h2]
    · simp [h2]

theorem stk_le {A D N : Nat} (_hD : 0 < D) (h : A ≤ 4 * N * D) : stk A D ≤ 4 * N := by
  have h1 : A / D ≤ 4 * N := Nat.div_le_of_le_mul (by rw [Nat.mul_comm]; exact h)
  rw [stk_eq]
  split
  · rename_i hc
    have : A / D ≠ 4 * N := by
      intro he
      have hd := Nat.div_add_mod A D
      rw [he, Nat.mul_comm] at hd
      omega
    omega
  · omega

theorem stk_lt {A D N : Nat} (hD : 0 < D) (h : A < 4 * N * D) : stk A D + 1 ≤ 4 * N := by
  have h1 : A / D < 4 * N := (Nat.div_lt_iff_lt_mul hD).2 h
  rw [stk_eq]
  split <;> omega

theorem stk_ge {A D N : Nat} (hD : 0 < D) (h : 4 * N * D ≤ A) : 4 * N ≤ stk A D := by
  have h1 : 4 * N ≤ A / D := (Nat.le_div_iff_mul_le hD).2 h
  rw [stk_eq]; omega

theorem stk_gt {A D N : Nat} (hD : 0 < D) (h : 4 * N * D < A) : 4 * N + 1 ≤ stk A D := by
  have h1 : 4 * N ≤ A / D := (Nat.le_div_iff_mul_le hD).2 (by omega)
  rw [stk_eq]
  split
  · omega
  · rename_i hc
    have hd := Nat.div_add_mod A D
    by_cases he : A / D = 4 * N
    · exfalso
      apply hc
      refine ⟨?_, by omega⟩
      intro h0
      rw [he, h0, Nat.mul_comm] at hd
      omega
    · omega

/-- the scaling tables' side, at p = 1 .. 25 -/
def lp (p : Nat) : Nat := p * 108853 / 2 ^ 15
/-- the high word of ten to the p, left-justified -/
def pm (p : Nat) : Nat := if lp p ≤ 63 then 10 ^ p * 2 ^ (63 - lp p) else 10 ^ p / 2 ^ (lp p - 63)
/-- the power of ten by which a float of last place 2^-t is scaled: the plain case -/
def pB (t : Nat) : Nat := (t * 78913 + 2 ^ 18 - 1) / 2 ^ 18
/-- .. a power of two -/
def pA (t : Nat) : Nat := (t * 631305 + 261663 + 2 ^ 21 - 1) / 2 ^ 21

def okT (t p : Nat) : Bool := 1 ≤ p && p ≤ 25 && lp p ≤ t + 8 && t + 8 - lp p < 64 && 2 ^ 63 ≤ pm p && pm p < 2 ^ 64 && pm p % 2 == 0 && pm p * 2 ^ lp p == 10 ^ p * 2 ^ 63
theorem okB : ∀ t, t < 83 → 2 ≤ t → okT t (pB t) = true ∧ 2 ^ t ≤ 10 ^ pB t ∧ 10 ^ pB t < 10 * 2 ^ t := by decide +kernel
theorem okA : ∀ t, t < 83 → 2 ≤ t → okT t (pA t) = true ∧ 4 * 2 ^ t ≤ 3 * 10 ^ pA t ∧ 3 * 10 ^ pA t < 40 * 2 ^ t := by decide +kernel

/-- what 'uscale' answers, where the low word of the table is nought -/
def usc (x p s : Nat) : Nat :=
  let hi := x * pm p / 2 ^ 64
  let mid := x * pm p % 2 ^ 64
  if hi % 2 ^ s ≠ 0 then hi / 2 ^ s ||| 1 else hi / 2 ^ s ||| (if 1 < mid then 1 else 0)

theorem usc_eq (x p s : Nat) (he : pm p % 2 = 0) : usc x p s = stk (x * pm p) (2 ^ (64 + s)) := by
  unfold usc stk
  simp only
  have e1 : x * pm p / 2 ^ 64 / 2 ^ s = x * pm p / 2 ^ (64 + s) := by rw [Nat.div_div_eq_div_mul, Nat.pow_add]
  have hev : x * pm p % 2 = 0 := by rw [Nat.mul_mod, he]; simp
  have hmid : x * pm p % 2 ^ 64 % 2 = 0 := by rw [Nat.mod_mod_of_dvd _ (by decide : 2 ∣ 2 ^ 64)]; exact hev
  rw [e1]
  have e2 : x * pm p % 2 ^ (64 + s) = x * pm p % 2 ^ 64 + 2 ^ 64 * (x * pm p / 2 ^ 64 % 2 ^ s) := by
    rw [Nat.pow_add, Nat.mod_mul]
  generalize hmm : x * pm p % 2 ^ 64 = mid at *
  generalize hh : x * pm p / 2 ^ 64 % 2 ^ s = h at *
  by_cases h0 : h = 0
  · subst h0
    simp only [ne_eq, not_true_eq_false, if_false]
    rw [e2]
    by_cases hm : 1 < mid
    · rw [if_pos hm, if_neg (by omega)]
    · rw [if_neg hm, if_pos (by omega)]
  · rw [if_pos (by exact h0), e2, if_neg (by omega)]



theorem okT_spec {t p : Nat} (h : okT t p = true) : 1 ≤ p ∧ p ≤ 25 ∧ lp p ≤ t + 8 ∧ t + 8 - lp p < 64 ∧ 2 ^ 63 ≤ pm p ∧ pm p < 2 ^ 64 ∧ pm p % 2 = 0 ∧ pm p * 2 ^ lp p = 10 ^ p * 2 ^ 63 := by
  unfold okT at h
  simp only [Bool.and_eq_true, decide_eq_true_eq, beq_iff_eq] at h
  obtain ⟨⟨⟨⟨⟨⟨⟨a, b⟩, c⟩, d⟩, e⟩, f⟩, g⟩, i⟩ := h
  exact ⟨a, b, c, d, e, f, g, i⟩

theorem scale_eq {t p x N : Nat} (h : okT t p = true) : (x * pm p) * 2 ^ lp p = (x * 10 ^ p) * 2 ^ 63 ∧ (4 * N * 2 ^ (64 + (t + 8 - lp p))) * 2 ^ lp p = (N * 2 ^ (t + 11)) * 2 ^ 63 := by
  obtain ⟨_, _, h3, _, _, _, _, h8⟩ := okT_spec h
  constructor
  · rw [Nat.mul_assoc, h8, Nat.mul_assoc]
  · have e1 : 2 ^ (64 + (t + 8 - lp p)) * 2 ^ lp p = 2 ^ (t + 72) := by rw [← Nat.pow_add]; congr 1; omega
    have e2 : 2 ^ (t + 72) * 4 = 2 ^ (t + 11) * 2 ^ 63 := by rw [show (4 : Nat) = 2 ^ 2 from rfl, ← Nat.pow_add, ← Nat.pow_add]
    rw [Nat.mul_assoc, e1, Nat.mul_comm 4 N, Nat.mul_assoc, Nat.mul_comm 4, e2, Nat.mul_assoc]

theorem scale_le {t p x N : Nat} (h : okT t p = true) (hx : x * 10 ^ p ≤ N * 2 ^ (t + 11)) : x * pm p ≤ 4 * N * 2 ^ (64 + (t + 8 - lp p)) := by
  obtain ⟨e1, e2⟩ := scale_eq (x := x) (N := N) h
  refine Nat.le_of_mul_le_mul_right ?_ (Nat.two_pow_pos (lp p))
  rw [e1, e2]
  exact Nat.mul_le_mul_right _ hx
theorem scale_lt {t p x N : Nat} (h : okT t p = true) (hx : x * 10 ^ p < N * 2 ^ (t + 11)) : x * pm p < 4 * N * 2 ^ (64 + (t + 8 - lp p)) := by
  obtain ⟨e1, e2⟩ := scale_eq (x := x) (N := N) h
  refine Nat.lt_of_mul_lt_mul_right (a := 2 ^ lp p) ?_
  rw [e1, e2]
  exact Nat.mul_lt_mul_of_pos_right hx (by decide)
theorem scale_ge {t p x N : Nat} (h : okT t p = true) (hx : N * 2 ^ (t + 11) ≤ x * 10 ^ p) : 4 * N * 2 ^ (64 + (t + 8 - lp p)) ≤ x * pm p := by
  obtain ⟨e1, e2⟩ := scale_eq (x := x) (N := N) h
  refine Nat.le_of_mul_le_mul_right ?_ (Nat.two_pow_pos (lp p))
  rw [e1, e2]
  exact Nat.mul_le_mul_right _ hx
theorem scale_gt {t p x N : Nat} (h : okT t p = true) (hx : N * 2 ^ (t + 11) < x * 10 ^ p) : 4 * N * 2 ^ (64 + (t + 8 - lp p)) < x * pm p := by
  obtain ⟨e1, e2⟩ := scale_eq (x := x) (N := N) h
  refine Nat.lt_of_mul_lt_mul_right (a := 2 ^ lp p) ?_
  rw [e1, e2]
  exact Nat.mul_lt_mul_of_pos_right hx (by decide)

/-- THE SHORTEST FORM: where a decimal N / 10 lies between the scaled bounds, and they are narrow, it is what is found. -/
theorem found {t p mn mx odd N : Nat} (h : okT t p = true) (hodd : odd < 2)
    (hlo : mn * 10 ^ p ≤ N * 2 ^ (t + 11)) (hlo' : odd = 1 → mn * 10 ^ p < N * 2 ^ (t + 11))
    (hhi : N * 2 ^ (t + 11) ≤ mx * 10 ^ p) (hhi' : odd = 1 → N * 2 ^ (t + 11) < mx * 10 ^ p)
    (hw : mx * 10 ^ p < (N + 10) * 2 ^ (t + 11)) :
    (usc mn p (t + 8 - lp p) + odd + 3) / 4 ≤ N ∧ odd ≤ usc mx p (t + 8 - lp p) ∧ N ≤ (usc mx p (t + 8 - lp p) - odd) / 4 ∧ (usc mx p (t + 8 - lp p) - odd) / 4 < N + 10 := by
  have he := (okT_spec h).2.2.2.2.2.2.1
  rw [usc_eq _ _ _ he, usc_eq _ _ _ he]
  have hD : 0 < 2 ^ (64 + (t + 8 - lp p)) := Nat.two_pow_pos _
  have a1 := stk_le hD (scale_le h hlo)
  have a3 := stk_ge hD (scale_ge h hhi)
  have a5 := stk_lt hD (scale_lt h hw)
  by_cases ho : odd = 1
  · have a2 := stk_lt hD (scale_lt h (hlo' ho))
    have a4 := stk_gt hD (scale_gt h (hhi' ho))
    omega
  · have : odd = 0 := by omega
    subst this
    omega

/-- what rounding says -/
theorem rhe_spec (A b : Nat) (hb : 0 < b) : 2 * A ≤ (2 * rhe A b + 1) * b ∧ (2 * rhe A b) * b ≤ 2 * A + b ∧
    (rhe A b % 2 = 1 → 2 * A < (2 * rhe A b + 1) * b ∧ (2 * rhe A b) * b < 2 * A + b) := by
  have hd := Nat.div_add_mod A b
  have hm := Nat.mod_lt A hb
  unfold rhe
  generalize hq : A / b = q at *
  generalize hr : A % b = r at *
  have e1 : (2 * q + 1) * b = 2 * (b * q) + b := by rw [Nat.add_mul, Nat.mul_assoc, Nat.mul_comm q b, Nat.one_mul]
  have e2 : (2 * (q + 1) + 1) * b = 2 * (b * q) + 3 * b := by rw [Nat.mul_add, Nat.add_mul, Nat.add_mul, Nat.mul_assoc, Nat.mul_comm q b]; omega
  have e3 : (2 * q) * b = 2 * (b * q) := by rw [Nat.mul_assoc, Nat.mul_comm q b]
  have e4 : (2 * (q + 1)) * b = 2 * (b * q) + 2 * b := by rw [Nat.mul_add, Nat.add_mul, Nat.mul_assoc, Nat.mul_comm q b]
  split
  · rename_i hc
    rw [e2, e4]
    refine ⟨by omega, by omega, fun ho => ⟨by omega, ?_⟩⟩
    omega
  · rename_i hc
    simp only [Nat.add_zero]
    rw [e1, e3]
    refine ⟨by omega, by omega, fun ho => ⟨?_, by omega⟩⟩
    omega

theorem pow_split {p k : Nat} (h : k ≤ p) : 10 ^ p = 10 ^ (p - k) * 10 ^ k := by rw [← Nat.pow_add]; congr 1; omega

/-- THE PLAIN CASE. -/
theorem short_plain {n k t M : Nat} (hn : n < 10 ^ 15) (ht : t < 83) (ht2 : 2 ≤ t) (hM : 2 ^ 52 < M)
    (hr : 2 * (n * 2 ^ t) ≤ (2 * M + 1) * 10 ^ k ∧ (2 * M) * 10 ^ k ≤ 2 * (n * 2 ^ t) + 10 ^ k ∧
      (M % 2 = 1 → 2 * (n * 2 ^ t) < (2 * M + 1) * 10 ^ k ∧ (2 * M) * 10 ^ k < 2 * (n * 2 ^ t) + 10 ^ k)) :
    let p := pB t
    let s := t + 8 - lp p
    let N := n * 10 ^ (p - k)
    k < p ∧ (usc (M * 2 ^ 11 - 2 ^ 10) p s + M % 2 + 3) / 4 ≤ N ∧ M % 2 ≤ usc (M * 2 ^ 11 + 2 ^ 10) p s ∧ N ≤ (usc (M * 2 ^ 11 + 2 ^ 10) p s - M % 2) / 4 ∧ (usc (M * 2 ^ 11 + 2 ^ 10) p s - M % 2) / 4 < N + 10 := by
  intro p s N
  obtain ⟨hok, hp1, hp2⟩ := okB t ht ht2
  obtain ⟨r1, r2, r3⟩ := hr
  have hkp : k < p := by
    rcases Nat.lt_or_ge k p with h | h
    · exact h
    · exfalso
      have h10 : 10 ^ p ≤ 10 ^ k := Nat.pow_le_pow_right (by omega) h
      have h2t : 2 ^ t ≤ 10 ^ k := Nat.le_trans hp1 h10
      have : n * 2 ^ t ≤ n * 10 ^ k := Nat.mul_le_mul_left _ h2t
      have e5 : (2 * n + 1) * 10 ^ k = 2 * (n * 10 ^ k) + 10 ^ k := by rw [Nat.add_mul, Nat.mul_assoc, Nat.one_mul]
      have h5 : (2 * M) * 10 ^ k ≤ (2 * n + 1) * 10 ^ k := by rw [e5]; omega
      have := Nat.le_of_mul_le_mul_right h5 (Nat.pow_pos (by omega))
      omega
  refine ⟨hkp, ?_⟩
  have hsplit := pow_split (Nat.le_of_lt hkp)
  have hc : 0 < 10 ^ (p - k) := Nat.pow_pos (by omega)
  -- the bounds, scaled
  have e11 : 2 ^ (t + 11) = 2 ^ t * 2 ^ 11 := Nat.pow_add _ _ _
  have eN : N * 2 ^ (t + 11) = (2 * (n * 2 ^ t)) * (10 ^ (p - k) * 2 ^ 10) := by
    show n * 10 ^ (p - k) * 2 ^ (t + 11) = _
    rw [e11, show (2 : Nat) ^ 11 = 2 * 2 ^ 10 from rfl]
    generalize 2 ^ t = a; generalize 10 ^ (p - k) = c; generalize (2 : Nat) ^ 10 = d
    rw [Nat.mul_assoc, Nat.mul_assoc, Nat.mul_assoc]
    rw [Nat.mul_left_comm c a, Nat.mul_left_comm c 2, Nat.mul_left_comm 2 n, Nat.mul_left_comm 2 a]
  have emx : (M * 2 ^ 11 + 2 ^ 10) * 10 ^ p = ((2 * M + 1) * 10 ^ k) * (10 ^ (p - k) * 2 ^ 10) := by
    rw [hsplit, show M * 2 ^ 11 + 2 ^ 10 = (2 * M + 1) * 2 ^ 10 by omega]
    generalize 2 * M + 1 = a; generalize 10 ^ (p - k) = c; generalize (2 : Nat) ^ 10 = d; generalize 10 ^ k = e
    rw [Nat.mul_assoc, Nat.mul_assoc, Nat.mul_left_comm d, Nat.mul_comm d e, Nat.mul_left_comm c e]
  have emn : (M * 2 ^ 11 - 2 ^ 10) * 10 ^ p = ((2 * M - 1) * 10 ^ k) * (10 ^ (p - k) * 2 ^ 10) := by
    rw [hsplit, show M * 2 ^ 11 - 2 ^ 10 = (2 * M - 1) * 2 ^ 10 by omega]
    generalize 2 * M - 1 = a; generalize 10 ^ (p - k) = c; generalize (2 : Nat) ^ 10 = d; generalize 10 ^ k = e
    rw [Nat.mul_assoc, Nat.mul_assoc, Nat.mul_left_comm d, Nat.mul_comm d e, Nat.mul_left_comm c e]
  have hcd : 0 < 10 ^ (p - k) * 2 ^ 10 := Nat.mul_pos hc (by decide)
  have elow : (2 * M - 1) * 10 ^ k + 10 ^ k = (2 * M) * 10 ^ k := by
    rw [show (2 * M) = (2 * M - 1) + 1 by omega, Nat.add_mul, Nat.one_mul]; rfl
  refine found hok (Nat.mod_lt _ (by omega)) ?_ ?_ ?_ ?_ ?_
  · rw [emn, eN]; exact Nat.mul_le_mul_right _ (by omega)
  · intro ho
    rw [emn, eN]; exact Nat.mul_lt_mul_of_pos_right (by have := (r3 ho).2; omega) hcd
  · rw [emx, eN]; exact Nat.mul_le_mul_right _ r1
  · intro ho
    rw [emx, eN]; exact Nat.mul_lt_mul_of_pos_right (r3 ho).1 hcd
  · -- the width
    have e1 : (M * 2 ^ 11 + 2 ^ 10) * 10 ^ p = (M * 2 ^ 11 - 2 ^ 10) * 10 ^ p + 2 ^ 11 * 10 ^ p := by
      rw [← Nat.add_mul, show M * 2 ^ 11 - 2 ^ 10 + 2 ^ 11 = M * 2 ^ 11 + 2 ^ 10 by omega]
    have h1 : (M * 2 ^ 11 - 2 ^ 10) * 10 ^ p ≤ N * 2 ^ (t + 11) := by
      rw [emn, eN]; exact Nat.mul_le_mul_right _ (by omega)
    have h2 : 2 ^ 11 * 10 ^ p < 10 * 2 ^ (t + 11) := by
      rw [e11]
      have : 2 ^ 11 * 10 ^ p < 2 ^ 11 * (10 * 2 ^ t) := Nat.mul_lt_mul_of_pos_left hp2 (by decide)
      have e : 2 ^ 11 * (10 * 2 ^ t) = 10 * (2 ^ t * 2 ^ 11) := by rw [Nat.mul_left_comm, Nat.mul_comm (2 ^ 11)]
      omega
    rw [e1, Nat.add_mul]
    omega
theorem shuffle (a c d e : Nat) : (a * d) * (c * e) = (a * e) * (c * d) := by
  rw [Nat.mul_assoc, Nat.mul_assoc, Nat.mul_left_comm d, Nat.mul_comm d e, Nat.mul_left_comm c e]

/-- THE CASE OF A POWER OF TWO. -/
theorem short_pow {n k t : Nat} (hn : n < 10 ^ 15) (ht : t < 83) (ht2 : 2 ≤ t)
    (hlo : (4 * 2 ^ 52 - 1) * 10 ^ k ≤ 4 * (n * 2 ^ t)) (hhi : 2 * (n * 2 ^ t) ≤ (2 * 2 ^ 52 + 1) * 10 ^ k) :
    let p := pA t
    let s := t + 8 - lp p
    let N := n * 10 ^ (p - k)
    k < p ∧ (usc (2 ^ 63 - 2 ^ 9) p s + 0 + 3) / 4 ≤ N ∧ 0 ≤ usc (2 ^ 63 + 2 ^ 10) p s ∧ N ≤ (usc (2 ^ 63 + 2 ^ 10) p s - 0) / 4 ∧ (usc (2 ^ 63 + 2 ^ 10) p s - 0) / 4 < N + 10 := by
  intro p s N
  obtain ⟨hok, hp1, hp2⟩ := okA t ht ht2
  have hkp : k < p := by
    rcases Nat.lt_or_ge k p with h | h
    · exact h
    · exfalso
      have h10 : 10 ^ p ≤ 10 ^ k := Nat.pow_le_pow_right (by omega) h
      have h2t : 4 * 2 ^ t ≤ 3 * 10 ^ k := Nat.le_trans hp1 (Nat.mul_le_mul_left _ h10)
      have h6 : n * (4 * 2 ^ t) ≤ n * (3 * 10 ^ k) := Nat.mul_le_mul_left _ h2t
      have e6 : n * (4 * 2 ^ t) = 4 * (n * 2 ^ t) := Nat.mul_left_comm _ _ _
      have e7 : n * (3 * 10 ^ k) = (3 * n) * 10 ^ k := by rw [Nat.mul_left_comm, Nat.mul_assoc]
      have h5 : (4 * 2 ^ 52 - 1) * 10 ^ k ≤ (3 * n) * 10 ^ k := by rw [← e7]; omega
      have := Nat.le_of_mul_le_mul_right h5 (Nat.pow_pos (by omega))
      omega
  refine ⟨hkp, ?_⟩
  have hsplit := pow_split (Nat.le_of_lt hkp)
  have hc : 0 < 10 ^ (p - k) := Nat.pow_pos (by omega)
  have e11 : 2 ^ (t + 11) = 2 ^ t * 2 ^ 11 := Nat.pow_add _ _ _
  have eN : N * 2 ^ (t + 11) = (4 * (n * 2 ^ t)) * (10 ^ (p - k) * 2 ^ 9) := by
    show n * 10 ^ (p - k) * 2 ^ (t + 11) = _
    rw [e11, show (2 : Nat) ^ 11 = 4 * 2 ^ 9 from rfl]
    generalize 2 ^ t = a; generalize 10 ^ (p - k) = c; generalize (2 : Nat) ^ 9 = d
    rw [Nat.mul_assoc, Nat.mul_assoc, Nat.mul_assoc]
    rw [Nat.mul_left_comm c a, Nat.mul_left_comm c 4, Nat.mul_left_comm 4 n, Nat.mul_left_comm 4 a]
  have emx : (2 ^ 63 + 2 ^ 10) * 10 ^ p = (2 * ((2 * 2 ^ 52 + 1) * 10 ^ k)) * (10 ^ (p - k) * 2 ^ 9) := by
    rw [hsplit]
    exact (shuffle (2 * (2 * 2 ^ 52 + 1)) (10 ^ (p - k)) (2 ^ 9) (10 ^ k)).trans (congrArg (· * (10 ^ (p - k) * 2 ^ 9)) (Nat.mul_assoc 2 _ _))
  have emn : (2 ^ 63 - 2 ^ 9) * 10 ^ p = ((4 * 2 ^ 52 - 1) * 10 ^ k) * (10 ^ (p - k) * 2 ^ 9) := by
    rw [hsplit]
    exact shuffle (4 * 2 ^ 52 - 1) (10 ^ (p - k)) (2 ^ 9) (10 ^ k)
  have h1 : (2 ^ 63 - 2 ^ 9) * 10 ^ p ≤ N * 2 ^ (t + 11) := by rw [emn, eN]; exact Nat.mul_le_mul_right _ hlo
  refine found (odd := 0) hok (by omega) h1 (fun ho => absurd ho (by decide)) ?_ (fun ho => absurd ho (by decide)) ?_
  · rw [emx, eN]; exact Nat.mul_le_mul_right _ (by omega)
  · have e1 : (2 ^ 63 + 2 ^ 10) * 10 ^ p = (2 ^ 63 - 2 ^ 9) * 10 ^ p + (3 * 2 ^ 9) * 10 ^ p := by
      rw [← Nat.add_mul]
    have h2 : (3 * 2 ^ 9) * 10 ^ p < 10 * 2 ^ (t + 11) := by
      rw [e11]
      have h3 : 2 ^ 9 * (3 * 10 ^ p) < 2 ^ 9 * (40 * 2 ^ t) := Nat.mul_lt_mul_of_pos_left hp2 (by decide)
      have e3 : 2 ^ 9 * (3 * 10 ^ p) = (3 * 2 ^ 9) * 10 ^ p := by rw [← Nat.mul_assoc]
      have e4 : 2 ^ 9 * (40 * 2 ^ t) = 10 * (2 ^ t * 2 ^ 11) := by
        rw [← Nat.mul_assoc, Nat.mul_comm (2 ^ t), ← Nat.mul_assoc]
      omega
    have e9 : (N + 10) * 2 ^ (t + 11) = N * 2 ^ (t + 11) + 10 * 2 ^ (t + 11) := Nat.add_mul _ _ _
    exact e9 ▸ e1 ▸ Nat.add_lt_add_of_le_of_lt h1 h2
end Go.Proofs.YtokmkkkanphihaaGreatRDoor.Fl
