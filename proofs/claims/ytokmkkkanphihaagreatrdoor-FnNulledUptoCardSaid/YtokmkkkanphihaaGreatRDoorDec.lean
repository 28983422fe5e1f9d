/- Decimal numerals, cut and filled. -/
import Derived.Lib.ItoaNum
namespace Go.Proofs.YtokmkkkanphihaaGreatRDoor.Fl
open Go.Lib

/-- The last k decimal digits of m. -/
def digs : Nat → Nat → List UInt8
  | 0, _ => []
  | k + 1, m => digs k (m / 10) ++ [UInt8.ofNat (48 + m % 10)]

theorem digs_len : ∀ k m, (digs k m).length = k
  | 0, _ => rfl
  | k + 1, m => by simp [digs, digs_len k]

theorem digs_zero : ∀ k, digs k 0 = List.replicate k 48
  | 0 => rfl
  | k + 1 => by simp only [digs, Nat.zero_div, digs_zero k]; rw [List.replicate_succ']; rfl

theorem dec_small {u : Nat} (h : u < 10) : decDigits u = [UInt8.ofNat (48 + u)] := by rw [decDigits, dif_pos h]
theorem dec_big {u : Nat} (h : ¬ u < 10) : decDigits u = decDigits (u / 10) ++ [UInt8.ofNat (48 + u % 10)] := by rw [decDigits, dif_neg h]

theorem dec_cut : ∀ k n, 10 ^ k ≤ n → decDigits n = decDigits (n / 10 ^ k) ++ digs k n
  | 0, n, _ => by simp [digs]
  | k + 1, n, h => by
    have hp : 1 ≤ 10 ^ k := Nat.one_le_pow _ _ (by decide)
    rw [Nat.pow_succ] at h
    rw [dec_big (by omega), dec_cut k (n / 10) (by omega), Nat.div_div_eq_div_mul, Nat.mul_comm 10, ← Nat.pow_succ, digs, List.append_assoc]

theorem dec_fill : ∀ k n, 0 < n → n < 10 ^ k → digs k n = List.replicate (k - (decDigits n).length) 48 ++ decDigits n
  | 0, n, h, h2 => by simp at h2; omega
  | k + 1, n, h, h2 => by
    rw [Nat.pow_succ] at h2
    by_cases h10 : n < 10
    · rw [digs, dec_small h10, Nat.div_eq_of_lt h10, digs_zero, Nat.mod_eq_of_lt h10]
      simp
    · rw [digs, dec_fill k (n / 10) (by omega) (by omega), dec_big h10]
      simp

theorem digs_mul : ∀ z n, digs z (n * 10 ^ z) = List.replicate z 48
  | 0, n => rfl
  | z + 1, n => by
    have e : n * 10 ^ (z + 1) = (n * 10 ^ z) * 10 := by rw [Nat.pow_succ, Nat.mul_assoc]
    rw [digs, e, Nat.mul_div_cancel _ (by decide : 0 < 10), digs_mul z, Nat.mul_mod_left, List.replicate_succ']
    rfl

theorem dec_mul {n : Nat} (z : Nat) (h : 0 < n) : decDigits (n * 10 ^ z) = decDigits n ++ List.replicate z 48 := by
  have hp : 0 < 10 ^ z := Nat.pow_pos (by decide)
  rw [dec_cut z (n * 10 ^ z) (Nat.le_mul_of_pos_left _ h), Nat.mul_div_cancel _ hp, digs_mul]

theorem dec_pos (n : Nat) : 0 < (decDigits n).length := by rw [decDigits_length]; exact nDigits_pos n

theorem ofNat_inj48 {a : Nat} (h : a < 10) (e : UInt8.ofNat (48 + a) = 48) : a = 0 := by
  have : ∀ b : Fin 10, UInt8.ofNat (48 + b.val) = 48 → b.val = 0 := by decide
  exact this ⟨a, h⟩ e

theorem dec_last {n : Nat} (h : n % 10 ≠ 0) : (decDigits n)[(decDigits n).length - 1]? ≠ some 48 := by
  by_cases h10 : n < 10
  · rw [dec_small h10]
    intro e
    have e' : UInt8.ofNat (48 + n) = 48 := by simpa only [List.length_cons, List.length_nil, Nat.zero_add, Nat.sub_self, List.getElem?_cons_zero, Option.some.injEq] using e
    exact h (by rw [ofNat_inj48 h10 e'])
  · rw [dec_big h10]
    intro e
    have e' : UInt8.ofNat (48 + n % 10) = 48 := by simpa only [List.length_append, List.length_cons, List.length_nil, Nat.zero_add, Nat.add_sub_cancel, List.getElem?_concat_length, Option.some.injEq] using e
    exact h (ofNat_inj48 (Nat.mod_lt _ (by decide)) e')

/-- A positive number is one that ends in no nought, times a power of ten. -/
theorem strip_zero : ∀ n, 0 < n → ∃ m j, n = m * 10 ^ j ∧ m % 10 ≠ 0 := by
  intro n
  induction n using Nat.strongRecOn with
  | _ n ih =>
    intro h
    by_cases h0 : n % 10 = 0
    · obtain ⟨m, j, e, hm⟩ := ih (n / 10) (by omega) (by omega)
      refine ⟨m, j + 1, ?_, hm⟩
      rw [Nat.pow_succ, ← Nat.mul_assoc, ← e]
      omega
    · exact ⟨n, 0, by simp, h0⟩

/-- The decimal text of n / 10^k. -/
def plainTxt (n k : Nat) : List UInt8 := decDigits (n / 10 ^ k) ++ (if k = 0 then [] else [46] ++ digs k n)

/-- What 'fmtEFG' writes of the digits ds with the point behind dp of them. -/
def efgTxt (ds : List UInt8) (dp : Int) : List UInt8 :=
  if dp ≤ 0 then [48] ++ [46] ++ List.replicate (-dp).toNat 48 ++ ds
  else if dp < ds.length then ds.take dp.toNat ++ [46] ++ ds.drop dp.toNat
  else ds ++ List.replicate (dp.toNat - ds.length) 48

theorem efg_plain {m j k : Nat} (hm : m % 10 ≠ 0) (hk : k = 0 ∨ j = 0) :
    efgTxt (decDigits m) ((decDigits m).length + j - k) = plainTxt (m * 10 ^ j) k := by
  have hm0 : 0 < m := by rcases Nat.eq_zero_or_pos m with h | h; · subst h; simp at hm
                         · exact h
  have hl := dec_pos m
  unfold efgTxt plainTxt
  rcases Nat.eq_zero_or_pos k with h0 | h0
  · subst h0
    rw [if_neg (by omega), if_neg (by omega), if_pos rfl, Nat.pow_zero, Nat.div_one, dec_mul j hm0]
    simp
    congr 1
    omega
  · have hj : j = 0 := by omega
    subst hj
    rw [if_neg (by omega : ¬ k = 0)]
    simp only [Nat.pow_zero, Nat.mul_one]
    rcases Nat.lt_or_ge m (10 ^ k) with hlt | hge
    · have hlen : (decDigits m).length ≤ k := by
        rw [decDigits_length]
        rcases Nat.lt_or_ge k (nDigits m) with h | h
        · exfalso
          have h1 : 10 ^ (nDigits m - 1) ≤ m := by
            have : ∀ u, 0 < u → 10 ^ (nDigits u - 1) ≤ u := by
              intro u
              induction u using Nat.strongRecOn with
              | _ u ih =>
                intro hu
                by_cases h : u < 10
                · rw [nDigits_small h]; simp; omega
                · rw [nDigits_big h]
                  have := ih (u / 10) (by omega) (by omega)
                  have hp := nDigits_pos (u / 10)
                  rw [show nDigits (u / 10) + 1 - 1 = (nDigits (u / 10) - 1) + 1 by omega, Nat.pow_succ]
                  omega
            exact this m hm0
          have h2 : 10 ^ k ≤ 10 ^ (nDigits m - 1) := Nat.pow_le_pow_right (by decide) (by omega)
          omega
        · exact h
      rw [if_pos (by omega), Nat.div_eq_of_lt hlt, dec_fill k m hm0 hlt, dec_small (by omega : 0 < 10)]
      have e : (-(((decDigits m).length : Int) + ((0 : Nat) : Int) - (k : Int))).toNat = k - (decDigits m).length := by omega
      rw [e]
      simp
    · have hc := dec_cut k m hge
      have hl2 : (decDigits m).length = (decDigits (m / 10 ^ k)).length + k := by rw [hc]; simp [digs_len]
      have hl3 := dec_pos (m / 10 ^ k)
      rw [if_neg (by omega), if_pos (by omega)]
      have e : (((decDigits m).length : Int) + ((0 : Nat) : Int) - (k : Int)).toNat = (decDigits (m / 10 ^ k)).length := by omega
      rw [e]
      rw [hc]
      simp
end Go.Proofs.YtokmkkkanphihaaGreatRDoor.Fl
