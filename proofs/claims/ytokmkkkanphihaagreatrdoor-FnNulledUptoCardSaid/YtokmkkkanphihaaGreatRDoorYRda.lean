/- Where a reader stands in a text; what the texts of numbers look like. -/
import Derived.Test.YtokmkkkanphihaaGreatRDoorYVal
import Derived.Test.YtokmkkkanphihaaGreatRDoorUtf
import Derived.Test.YtokmkkkanphihaaGreatRDoorYPlain
namespace Go.Proofs.YtokmkkkanphihaaGreatRDoor
open Go.RowKit Go.Sort

/-- The text from place p on. -/
def At (T : ByteArray) (p : Nat) (X : List UInt8) : Prop := p ≤ T.size ∧ T.data.toList.drop p = X

theorem At.len {T : ByteArray} {p : Nat} {X : List UInt8} (h : At T p X) : p + X.length = T.size := by
  obtain ⟨h1, h2⟩ := h
  have : T.data.size = T.size := rfl
  rw [← h2, List.length_drop, Array.length_toList]
  omega

theorem At.head {T : ByteArray} {p : Nat} {c : UInt8} {X : List UInt8} (h : At T p (c :: X)) : ∃ hp : p < T.size, T[p] = c := by
  have hl := h.len
  simp only [List.length_cons] at hl
  have hp : p < T.size := by omega
  have hp' : p < T.data.toList.length := hp
  refine ⟨hp, ?_⟩
  have h2 := h.2
  rw [List.drop_eq_getElem_cons hp'] at h2
  exact (List.cons.inj h2).1

theorem At.tail {T : ByteArray} {p : Nat} {c : UInt8} {X : List UInt8} (h : At T p (c :: X)) : At T (p + 1) X := by
  have hl := h.len
  simp only [List.length_cons] at hl
  refine ⟨by omega, ?_⟩
  have h2 := h.2
  have hp' : p < T.data.toList.length := by
    have : T.data.toList.length = T.size := rfl
    omega
  rw [List.drop_eq_getElem_cons hp'] at h2
  exact (List.cons.inj h2).2

theorem At.skip {T : ByteArray} : ∀ {X Y : List UInt8} {p : Nat}, At T p (X ++ Y) → At T (p + X.length) Y
  | [], Y, p, h => h
  | c :: X, Y, p, h => by
    have h2 := At.skip (At.tail h)
    rw [List.length_cons, show p + (X.length + 1) = p + 1 + X.length by omega]
    exact h2

theorem At.all (T : ByteArray) : At T 0 T.data.toList := ⟨Nat.zero_le _, rfl⟩

theorem At.of (l : List UInt8) : At ⟨l.toArray⟩ 0 l := ⟨Nat.zero_le _, rfl⟩

theorem At.cut {T : ByteArray} {p : Nat} {X Y : List UInt8} (h : At T p (X ++ Y)) : T.extract p (p + X.length) = ⟨X.toArray⟩ := by
  have h2 := h.2
  have : (T.extract p (p + X.length)).data.toList = X := by
    rw [ByteArray.data_extract, Array.toList_extract, List.extract_eq_take_drop, h2, Nat.add_sub_cancel_left, List.take_left']
    rfl
  generalize hE : T.extract p (p + X.length) = E at this
  obtain ⟨d⟩ := E
  simp only at this
  rw [← this, Array.toArray_toList]

def isD (c : UInt8) : Prop := 48 ≤ c.toNat ∧ c.toNat ≤ 57
def Digs (l : List UInt8) : Prop := ∀ c ∈ l, isD c

theorem isD_of {d : Nat} (h : d < 10) : isD (UInt8.ofNat (48 + d)) := by
  have : ∀ b : Fin 10, 48 ≤ (UInt8.ofNat (48 + b.val)).toNat ∧ (UInt8.ofNat (48 + b.val)).toNat ≤ 57 := by decide
  exact this ⟨d, h⟩
theorem ne48_of {d : Nat} (h : d < 10) (h0 : 0 < d) : UInt8.ofNat (48 + d) ≠ 48 := by
  have : ∀ b : Fin 10, 0 < b.val → UInt8.ofNat (48 + b.val) ≠ 48 := by decide
  exact this ⟨d, h⟩ h0

theorem Digs.app {a b : List UInt8} (ha : Digs a) (hb : Digs b) : Digs (a ++ b) := fun c hc => by
  rcases List.mem_append.1 hc with h | h
  · exact ha c h
  · exact hb c h
theorem Digs.one {d : Nat} (h : d < 10) : Digs [UInt8.ofNat (48 + d)] := fun c hc => by
  rw [List.mem_singleton] at hc; rw [hc]; exact isD_of h

theorem Digs_dec (n : Nat) : Digs (Lib.decDigits n) := by
  induction n using Nat.strongRecOn with
  | _ n ih =>
    by_cases h : n < 10
    · rw [Fl.dec_small h]; exact Digs.one h
    · rw [Fl.dec_big h]; exact (ih _ (by omega)).app (Digs.one (Nat.mod_lt _ (by decide)))
theorem Digs_digs : ∀ k m, Digs (Fl.digs k m)
  | 0, _ => by simp [Fl.digs, Digs]
  | k + 1, m => by rw [Fl.digs]; exact (Digs_digs k _).app (Digs.one (Nat.mod_lt _ (by decide)))

/-- The part of a number ahead of its point. -/
def IntTxt (l : List UInt8) : Prop := l = [48] ∨ ∃ d ds, l = d :: ds ∧ isD d ∧ d ≠ 48 ∧ Digs ds
/-- The part behind it. -/
def FracTxt (l : List UInt8) : Prop := l = [] ∨ ∃ d ds, l = 46 :: d :: ds ∧ isD d ∧ Digs ds
def NumTxt (t : List UInt8) : Prop := ∃ neg ip fr, t = sgn neg ++ (ip ++ fr) ∧ IntTxt ip ∧ FracTxt fr

theorem IntTxt_dec (n : Nat) : IntTxt (Lib.decDigits n) := by
  induction n using Nat.strongRecOn with
  | _ n ih =>
    by_cases h : n < 10
    · rw [Fl.dec_small h]
      rcases Nat.eq_zero_or_pos n with h0 | h0
      · subst h0; left; rfl
      · right; exact ⟨_, [], rfl, isD_of h, ne48_of h h0, by simp [Digs]⟩
    · rw [Fl.dec_big h]
      have h1 := ih (n / 10) (by omega)
      rcases h1 with h1 | ⟨d, ds, h1, h2, h3, h4⟩
      · exfalso
        have hl := congrArg List.length h1
        by_cases h5 : n / 10 < 10
        · rw [Fl.dec_small h5] at h1
          have h6 := List.head_eq_of_cons_eq h1
          exact ne48_of h5 (by omega) h6
        · rw [Fl.dec_big h5] at hl
          simp at hl
          have h7 := Lib.decDigits_length (n / 10 / 10)
          have h8 := Lib.nDigits_pos (n / 10 / 10)
          simp_all
          omega
      · right
        rw [h1]
        exact ⟨d, ds ++ [UInt8.ofNat (48 + n % 10)], rfl, h2, h3, h4.app (Digs.one (Nat.mod_lt _ (by decide)))⟩

theorem NumTxt_itoa (i : Int) : NumTxt (Lib.itoa i) := by
  unfold Lib.itoa
  split
  · exact ⟨true, Lib.decDigits i.natAbs, [], by simp [sgn], IntTxt_dec _, .inl rfl⟩
  · exact ⟨false, Lib.decDigits i.toNat, [], by simp [sgn], IntTxt_dec _, .inl rfl⟩

theorem NumTxt_real {b : Nat} {t : List UInt8} (h : RealTxt b t) : NumTxt t := by
  rcases h with ⟨neg, _, rfl⟩ | ⟨neg, n, k, mag, _, _, _, _, _, _, rfl⟩
  · exact ⟨neg, [48], [], by simp, .inl rfl, .inl rfl⟩
  · refine ⟨neg, Lib.decDigits (n / 10 ^ k), _, rfl, IntTxt_dec _, ?_⟩
    split
    · left; rfl
    · rename_i hk
      right
      obtain ⟨j, rfl⟩ : ∃ j, k = j + 1 := ⟨k - 1, by omega⟩
      have h1 := Digs_digs (j + 1) n
      have h2 := Fl.digs_len (j + 1) n
      obtain ⟨d, ds, h3⟩ : ∃ d ds, Fl.digs (j + 1) n = d :: ds := by
        cases h4 : Fl.digs (j + 1) n with
        | nil => rw [h4] at h2; simp at h2
        | cons d ds => exact ⟨d, ds, rfl⟩
      rw [h3] at h1 ⊢
      exact ⟨d, ds, rfl, h1 d (by simp), fun c hc => h1 c (by simp [hc])⟩

/-- What may stand behind a value. -/
def Stop (Y : List UInt8) : Prop := ∀ c X, Y = c :: X → c = 44 ∨ c = 93 ∨ c = 125

theorem Stop_nil : Stop [] := fun c X h => by cases h
theorem Stop_cons {c : UInt8} {X : List UInt8} (h : c = 44 ∨ c = 93 ∨ c = 125) : Stop (c :: X) := fun d Y e => by
  obtain ⟨rfl, _⟩ := List.cons.inj e
  exact h

/-- No digit stands at the head. -/
def NoD (Y : List UInt8) : Prop := ∀ c X, Y = c :: X → ¬ isD c
theorem Stop.noD {Y : List UInt8} (h : Stop Y) : NoD Y := fun c X e => by
  rcases h c X e with rfl | rfl | rfl <;> (unfold isD; decide)

/-- No blank stands at the head. -/
def NoB (Y : List UInt8) : Prop := ∀ c X, Y = c :: X → c ≠ 32 ∧ c ≠ 9 ∧ c ≠ 10 ∧ c ≠ 13
theorem Stop.noB {Y : List UInt8} (h : Stop Y) : NoB Y := fun c X e => by
  rcases h c X e with rfl | rfl | rfl <;> decide
theorem NoB_nil : NoB [] := fun c X h => by cases h
theorem NoB_cons {c : UInt8} {X : List UInt8} (h : c ≠ 32 ∧ c ≠ 9 ∧ c ≠ 10 ∧ c ≠ 13) : NoB (c :: X) := fun d Y e => by
  obtain ⟨rfl, _⟩ := List.cons.inj e
  exact h

/-- How a value begins: what the reader looks at. -/
def Starts (k : Int) (c : UInt8) : Prop :=
  (k = 2 ∧ (c = 116 ∨ c = 102)) ∨ ((k = 3 ∨ k = 4) ∧ (c = 45 ∨ isD c)) ∨ (k = 5 ∧ c = 34) ∨ (k = 6 ∧ c = 91) ∨ (k = 7 ∧ c = 123) ∨ (k = 1 ∧ c = 110)

theorem NumTxt.head {t : List UInt8} (h : NumTxt t) : ∃ c X, t = c :: X ∧ (c = 45 ∨ isD c) := by
  obtain ⟨neg, ip, fr, rfl, hi, _⟩ := h
  cases neg
  · rcases hi with rfl | ⟨d, ds, rfl, h1, _, _⟩
    · exact ⟨48, fr, rfl, .inr (by unfold isD; decide)⟩
    · exact ⟨d, ds ++ fr, rfl, .inr h1⟩
  · exact ⟨45, ip ++ fr, rfl, .inl rfl⟩

theorem valT_head {k i : Int} {r : Nat} {t : ByteArray} {l : List Val} {ks : List ByteArray} (h1 : 1 ≤ k) (h7 : k ≤ 7) (hr : k = 4 → ∃ t, RealTxt r t) : ∃ c X, valT (.mk k i r t l ks) = c :: X ∧ Starts k c := by
  rw [valT]
  split
  · rename_i h; subst h
    unfold boolTxt
    split
    · exact ⟨116, _, rfl, .inl ⟨rfl, .inl rfl⟩⟩
    · exact ⟨102, _, rfl, .inl ⟨rfl, .inr rfl⟩⟩
  split
  · rename_i h; subst h
    obtain ⟨c, X, e, hc⟩ := (NumTxt_itoa i).head
    exact ⟨c, X, e, .inr (.inl ⟨.inl rfl, hc⟩)⟩
  split
  · rename_i h; subst h
    obtain ⟨c, X, e, hc⟩ := (NumTxt_real (realT_spec (hr rfl))).head
    exact ⟨c, X, e, .inr (.inl ⟨.inr rfl, hc⟩)⟩
  split
  · rename_i h; subst h
    exact ⟨34, _, rfl, .inr (.inr (.inl ⟨rfl, rfl⟩))⟩
  split
  · rename_i h; subst h
    exact ⟨91, _, rfl, .inr (.inr (.inr (.inl ⟨rfl, rfl⟩)))⟩
  split
  · rename_i h; subst h
    exact ⟨123, _, rfl, .inr (.inr (.inr (.inr (.inl ⟨rfl, rfl⟩))))⟩
  · exact ⟨110, _, rfl, .inr (.inr (.inr (.inr (.inr ⟨by omega, rfl⟩))))⟩

theorem Starts.noB {k : Int} {c : UInt8} (h : Starts k c) : c ≠ 32 ∧ c ≠ 9 ∧ c ≠ 10 ∧ c ≠ 13 := by
  rcases h with ⟨_, rfl | rfl⟩ | ⟨_, rfl | h⟩ | ⟨_, rfl⟩ | ⟨_, rfl⟩ | ⟨_, rfl⟩ | ⟨_, rfl⟩
  all_goals first | decide | skip
  unfold isD at h
  refine ⟨?_, ?_, ?_, ?_⟩ <;> (rintro rfl; revert h; decide)

theorem Starts.no93 {k : Int} {c : UInt8} (h : Starts k c) : c ≠ 93 := by
  rcases h with ⟨_, rfl | rfl⟩ | ⟨_, rfl | h⟩ | ⟨_, rfl⟩ | ⟨_, rfl⟩ | ⟨_, rfl⟩ | ⟨_, rfl⟩
  all_goals first | decide | skip
  unfold isD at h
  rintro rfl; revert h; decide
end Go.Proofs.YtokmkkkanphihaaGreatRDoor

/- spec.isDigit. -/
namespace Go.Proofs.YtokmkkkanphihaaGreatRDoor
open Go.RowKit Go.Sort

theorem no_digit {c : UInt8} (h : c = 45 ∨ c = 46 ∨ c = 0) : ¬ isD c := by
  rcases h with rfl | rfl | rfl <;> (unfold isD; decide)
theorem toInt_of {c d : UInt8} (h : c = d) : (c.toNat : Int) = (d.toNat : Int) := by subst h; rfl

set_option maxHeartbeats 1600000 in
set_option maxRecDepth 100000 in
theorem isDigit_yes {w : World} {c : UInt8} {ci : Int} (hci : ci = (c.toNat : Int)) (h : isD c) :
    Calls Tryz.prog 67 #[.int .u8 ci] w fun e w' => e = .returned (.bool true) ∧ w' = w := by
  subst hci
  obtain ⟨h1, h2⟩ := h
  have h1' : (48 : Int) ≤ (c.toNat : Int) := by omega
  have h2' : (c.toNat : Int) ≤ 57 := by omega
  clear h1 h2
  go_enter Tryz.func67, Tryz.ntmps67
  go_wp2_with fail
  go_ret
  exact ⟨rfl, rfl⟩

set_option maxHeartbeats 1600000 in
set_option maxRecDepth 100000 in
theorem isDigit_no {w : World} {c : UInt8} {ci : Int} (hci : ci = (c.toNat : Int)) (h : ¬ isD c) :
    Calls Tryz.prog 67 #[.int .u8 ci] w fun e w' => e = .returned (.bool false) ∧ w' = w := by
  subst hci
  unfold isD at h
  by_cases h1 : (48 : Int) ≤ (c.toNat : Int)
  · have h2 : (57 : Int) < (c.toNat : Int) := by omega
    clear h
    go_enter Tryz.func67, Tryz.ntmps67
    go_wp2_with fail
    go_ret
    exact ⟨by show Ending.returned (.bool (decide ((c.toNat : Int) ≤ 57))) = _; rw [decide_eq_false (by omega)], rfl⟩
  · clear h
    go_enter Tryz.func67, Tryz.ntmps67
    go_wp2_with fail
    go_ret
    exact ⟨rfl, rfl⟩

end Go.Proofs.YtokmkkkanphihaaGreatRDoor

/- The number that a text of digits tells, as the reference counts it. -/
namespace Go.Proofs.YtokmkkkanphihaaGreatRDoor.Fl
open Go.Lib

/-- What the reference keeps while it goes through a number's text. -/
structure Fs where
  n : Nat
  many : Nat
  behind : Nat
  point : Bool

def fstep (s : Fs) (c : UInt8) : Fs :=
  if c = 45 then s
  else if c = 46 then ⟨s.n, s.many, s.behind, true⟩
  else ⟨s.n * 10 + (c.toNat - 48), if 0 < s.n ∨ 48 < c.toNat then s.many + 1 else s.many, if s.point then s.behind + 1 else s.behind, s.point⟩

def fs0 : Fs := ⟨0, 0, 0, false⟩
def fsOf (l : List UInt8) : Fs := l.foldl fstep fs0

theorem fsOf_snoc (l : List UInt8) (c : UInt8) : fsOf (l ++ [c]) = fstep (fsOf l) c := by simp [fsOf]

theorem fstep_le (s : Fs) (c : UInt8) : s.n ≤ (fstep s c).n := by
  unfold fstep
  split
  · exact Nat.le_refl _
  · split
    · exact Nat.le_refl _
    · show s.n ≤ s.n * 10 + _
      omega

theorem foldl_le : ∀ (l : List UInt8) (s : Fs), s.n ≤ (l.foldl fstep s).n
  | [], _ => Nat.le_refl _
  | c :: l, s => Nat.le_trans (fstep_le s c) (foldl_le l _)

theorem fsOf_take (l : List UInt8) (j : Nat) : (fsOf (l.take j)).n ≤ (fsOf l).n := by
  have h : fsOf l = (l.drop j).foldl fstep (fsOf (l.take j)) := by
    unfold fsOf
    rw [← List.foldl_append, List.take_append_drop]
  rw [h]
  exact foldl_le _ _

def nd (n : Nat) : Nat := if n = 0 then 0 else nDigits n

theorem nd_step (n d : Nat) (hd : d < 10) : nd (n * 10 + d) = if 0 < n ∨ 0 < d then nd n + 1 else nd n := by
  unfold nd
  by_cases h : 0 < n ∨ 0 < d
  · rw [if_pos h, if_neg (by omega)]
    by_cases hn : n = 0
    · subst hn
      rw [if_pos rfl, nDigits_small (by omega)]
    · rw [if_neg hn, nDigits_big (by omega), show (n * 10 + d) / 10 = n by omega]
  · rw [if_neg h, if_pos (by omega), if_pos (by omega)]

theorem isD_ne {c : UInt8} (h : isD c) : c ≠ 45 ∧ c ≠ 46 := by
  unfold isD at h
  constructor <;> (rintro rfl; revert h; decide)

theorem fstep_digit {s : Fs} {c : UInt8} (h : isD c) (hm : s.many = nd s.n) : fstep s c = ⟨s.n * 10 + (c.toNat - 48), nd (s.n * 10 + (c.toNat - 48)), if s.point then s.behind + 1 else s.behind, s.point⟩ := by
  obtain ⟨h1, h2⟩ := isD_ne h
  unfold isD at h
  unfold fstep
  rw [if_neg h1, if_neg h2, nd_step _ _ (by omega), hm]
  congr 1
  by_cases hc : 0 < s.n ∨ 48 < c.toNat
  · rw [if_pos hc, if_pos (by omega)]
  · rw [if_neg hc, if_neg (by omega)]

def dfold (a : Nat) (l : List UInt8) : Nat := l.foldl (fun a c => a * 10 + (c.toNat - 48)) a

theorem foldl_digs : ∀ (l : List UInt8) (s : Fs), Digs l → s.many = nd s.n → l.foldl fstep s = ⟨dfold s.n l, nd (dfold s.n l), if s.point then s.behind + l.length else s.behind, s.point⟩
  | [], s, _, hm => by
    obtain ⟨n, many, behind, point⟩ := s
    simp only at hm
    simp [dfold, hm]
  | c :: l, s, hd, hm => by
    have h1 := fstep_digit (s := s) (hd c (by simp)) hm
    rw [List.foldl_cons, h1, foldl_digs l _ (fun d h => hd d (by simp [h])) rfl]
    have e : dfold s.n (c :: l) = dfold (s.n * 10 + (c.toNat - 48)) l := rfl
    rw [e]
    congr 1
    cases s.point
    · rfl
    · simp; omega

theorem ofNat48 {d : Nat} (h : d < 10) : (UInt8.ofNat (48 + d)).toNat - 48 = d := by
  have : ∀ b : Fin 10, (UInt8.ofNat (48 + b.val)).toNat - 48 = b.val := by decide
  exact this ⟨d, h⟩

theorem dfold_snoc (a : Nat) (l : List UInt8) (c : UInt8) : dfold a (l ++ [c]) = dfold a l * 10 + (c.toNat - 48) := by simp [dfold]

theorem dfold_dec (n : Nat) : dfold 0 (decDigits n) = n := by
  induction n using Nat.strongRecOn with
  | _ n ih =>
    by_cases h : n < 10
    · rw [dec_small h]
      show 0 * 10 + _ = n
      rw [ofNat48 h]; omega
    · rw [dec_big h, dfold_snoc, ih _ (by omega), ofNat48 (Nat.mod_lt _ (by decide))]
      omega

theorem dfold_digs : ∀ (k a m : Nat), dfold a (digs k m) = a * 10 ^ k + m % 10 ^ k
  | 0, a, m => by simp [digs, dfold, Nat.mod_one]
  | k + 1, a, m => by
    rw [digs, dfold_snoc, dfold_digs k, ofNat48 (Nat.mod_lt _ (by decide)), Nat.pow_succ, Nat.mul_comm (10 ^ k) 10, Nat.mod_mul, Nat.add_mul, Nat.mul_assoc a, Nat.mul_comm (10 ^ k) 10]
    omega

theorem fsOf_sgn (neg : Bool) (l : List UInt8) : fsOf (sgn neg ++ l) = fsOf l := by
  cases neg
  · rfl
  · rfl

/-- What the reference finds in the text of a short number. -/
theorem fsOf_plain (neg : Bool) (n k : Nat) : fsOf (sgn neg ++ plainTxt n k) = ⟨n, nd n, k, decide (k ≠ 0)⟩ := by
  rw [fsOf_sgn]
  unfold plainTxt fsOf
  rw [List.foldl_append, foldl_digs _ fs0 (Digs_dec _) rfl]
  have e0 : dfold fs0.n (decDigits (n / 10 ^ k)) = n / 10 ^ k := dfold_dec _
  rw [e0]
  by_cases hk : k = 0
  · subst hk
    simp [fs0]
  · rw [if_neg hk, List.cons_append, List.nil_append, List.foldl_cons]
    have e1 : ∀ s : Fs, fstep s 46 = ⟨s.n, s.many, s.behind, true⟩ := fun s => by unfold fstep; rw [if_neg (by decide), if_pos rfl]
    rw [e1, foldl_digs _ _ (Digs_digs _ _) rfl, dfold_digs, digs_len]
    have e2 : n / 10 ^ k * 10 ^ k + n % 10 ^ k = n := by rw [Nat.mul_comm]; exact Nat.div_add_mod n _
    simp only [e2]
    simp [fs0, hk]

theorem fsOf_zero (neg : Bool) : fsOf (sgn neg ++ [48]) = ⟨0, 0, 0, false⟩ := by cases neg <;> rfl

theorem fsOf_itoa (i : Int) : (fsOf (Lib.itoa i)).n = i.natAbs := by
  unfold Lib.itoa
  split
  · have : fsOf (45 :: decDigits i.natAbs) = fsOf (decDigits i.natAbs) := rfl
    rw [this]
    unfold fsOf
    rw [foldl_digs _ fs0 (Digs_dec _) rfl]
    exact dfold_dec _
  · unfold fsOf
    rw [foldl_digs _ fs0 (Digs_dec _) rfl]
    show dfold 0 _ = _
    rw [dfold_dec]
    omega

/-- The characters of a whole number's text. -/
theorem itoa_chars (i : Int) : ∀ c ∈ Lib.itoa i, c = 45 ∨ isD c := by
  unfold Lib.itoa
  intro c hc
  split at hc
  · rcases List.mem_cons.1 hc with h | h
    · exact .inl h
    · exact .inr (Digs_dec _ c h)
  · exact .inr (Digs_dec _ c hc)

theorem plain_chars (neg : Bool) (n k : Nat) : ∀ c ∈ sgn neg ++ plainTxt n k, c = 45 ∨ c = 46 ∨ isD c := by
  intro c hc
  rcases List.mem_append.1 hc with h | h
  · cases neg
    · simp [sgn] at h
    · simp [sgn] at h; exact .inl h
  · unfold plainTxt at h
    rcases List.mem_append.1 h with h | h
    · exact .inr (.inr (Digs_dec _ c h))
    · split at h
      · simp at h
      · rcases List.mem_append.1 h with h | h
        · exact .inr (.inl (by simpa using h))
        · exact .inr (.inr (Digs_digs _ _ c h))

theorem nd_le {n : Nat} (h : n < 10 ^ 15) : nd n ≤ 15 := by
  unfold nd
  split
  · omega
  · exact nDigits_le (by decide) h

/-- The count of digits goes with the number. -/
theorem many_of : ∀ (l : List UInt8) (s : Fs), (∀ c ∈ l, c = 45 ∨ c = 46 ∨ isD c) → s.many = nd s.n → (l.foldl fstep s).many = nd (l.foldl fstep s).n
  | [], _, _, h => h
  | c :: l, s, hc, h => by
    rw [List.foldl_cons]
    refine many_of l _ (fun d hd => hc d (by simp [hd])) ?_
    rcases hc c (by simp) with rfl | rfl | hd
    · exact h
    · have e1 : fstep s 46 = ⟨s.n, s.many, s.behind, true⟩ := by unfold fstep; rw [if_neg (by decide), if_pos rfl]
      rw [e1]; exact h
    · rw [fstep_digit hd h]
end Go.Proofs.YtokmkkkanphihaaGreatRDoor.Fl

/- The text of a value is UTF-8; what is reduced by no way is as it was; how deep a value is. -/
namespace Go.Proofs.YtokmkkkanphihaaGreatRDoor
open Go.RowKit Go.Sort

mutual
/-- The texts of a value are UTF-8. -/
def Utf8V : Val → Prop
  | .mk _ _ _ t l ks => Utf.ok t.data.toList = true ∧ (∀ k ∈ ks, Utf.ok k.data.toList = true) ∧ Utf8L l
def Utf8L : List Val → Prop
  | [] => True
  | v :: vs => Utf8V v ∧ Utf8L vs
end

mutual
theorem Utf8_of : ∀ (d : Nat) (v : Val), PlainV d v → Utf8V v
  | d, .mk k i r t l ks, h => by
    simp only [PlainV] at h
    obtain ⟨_, _, _, _, p5, _, _, p8, _, p10⟩ := h
    simp only [Utf8V]
    refine ⟨p5, fun k hk => ?_, Utf8L_of (d - 1) l p10⟩
    obtain ⟨j, hj, rfl⟩ := List.getElem_of_mem hk
    exact p8 j hj
theorem Utf8L_of : ∀ (d : Nat) (l : List Val), PlainL d l → Utf8L l
  | _, [], _ => by simp [Utf8L]
  | d, v :: vs, h => by
    simp only [PlainL] at h
    simp only [Utf8L]
    exact ⟨Utf8_of d v h.1, Utf8L_of d vs h.2⟩
end

theorem isD_ascii {c : UInt8} (h : isD c) : c.toNat < 128 := by unfold isD at h; omega

theorem NumTxt.ok {t : List UInt8} (h : NumTxt t) : Utf.ok t = true := by
  apply Utf.ok_all
  obtain ⟨neg, ip, fr, rfl, hi, hf⟩ := h
  have h1 : ∀ c ∈ sgn neg, c.toNat < 128 := by cases neg <;> simp [sgn]
  have h2 : ∀ c ∈ ip, c.toNat < 128 := by
    rcases hi with rfl | ⟨d, ds, rfl, a, _, b⟩
    · simp
    · intro c hc
      rcases List.mem_cons.1 hc with rfl | hc
      · exact isD_ascii a
      · exact isD_ascii (b c hc)
  have h3 : ∀ c ∈ fr, c.toNat < 128 := by
    rcases hf with rfl | ⟨d, ds, rfl, a, b⟩
    · simp
    · intro c hc
      rcases List.mem_cons.1 hc with rfl | hc
      · decide
      rcases List.mem_cons.1 hc with rfl | hc
      · exact isD_ascii a
      · exact isD_ascii (b c hc)
  intro c hc
  rcases List.mem_append.1 hc with hc | hc
  · exact h1 c hc
  · rcases List.mem_append.1 hc with hc | hc
    · exact h2 c hc
    · exact h3 c hc

theorem ok_one {c : UInt8} (h : c.toNat < 128) : Utf.ok [c] = true := Utf.ok_all _ (by simpa using h)

theorem ok_quote {t : ByteArray} (h : Utf.ok t.data.toList = true) : Utf.ok (quoteT t) = true := by
  unfold quoteT
  exact Utf.ok_app (Utf.ok_app (ok_one (by decide)) (Utf.ok_esc _ _ (Nat.le_refl _) h)) (ok_one (by decide))

theorem ok_nilB : Utf.ok ByteArray.empty.data.toList = true := Utf.ok_nil

mutual
theorem ok_valT : ∀ v : Val, Good v → Utf8V v → Utf.ok (valT v) = true
  | .mk k i r t l ks, hg, hu => by
    simp only [Good] at hg
    simp only [Utf8V] at hu
    obtain ⟨_, _, hr, _, _, _, hgl⟩ := hg
    obtain ⟨ht, hk, hul⟩ := hu
    rw [valT]
    split
    · unfold boolTxt; split <;> exact Utf.ok_all _ (by decide)
    split
    · exact (NumTxt_itoa i).ok
    split
    · rename_i h4
      exact (NumTxt_real (realT_spec (hr h4))).ok
    split
    · exact ok_quote ht
    split
    · exact Utf.ok_app (Utf.ok_app (ok_one (by decide)) (ok_listT l true hgl hul)) (ok_one (by decide))
    split
    · exact Utf.ok_app (Utf.ok_app (ok_one (by decide)) (ok_membT l ks true hgl hul hk)) (ok_one (by decide))
    · exact Utf.ok_all _ (by decide)
theorem ok_listT : ∀ (l : List Val) (first : Bool), GoodL l → Utf8L l → Utf.ok (listT l first) = true
  | [], _, _, _ => by rw [listT]; exact Utf.ok_nil
  | v :: vs, first, hg, hu => by
    simp only [GoodL] at hg
    simp only [Utf8L] at hu
    rw [listT]
    refine Utf.ok_app (Utf.ok_app ?_ (ok_valT v hg.1 hu.1)) (ok_listT vs false hg.2 hu.2)
    split
    · exact Utf.ok_nil
    · exact ok_one (by decide)
theorem ok_membT : ∀ (l : List Val) (ks : List ByteArray) (first : Bool), GoodL l → Utf8L l → (∀ k ∈ ks, Utf.ok k.data.toList = true) → Utf.ok (membT l ks first) = true
  | [], _, _, _, _, _ => by rw [membT]; exact Utf.ok_nil
  | v :: vs, ks, first, hg, hu, hk => by
    simp only [GoodL] at hg
    simp only [Utf8L] at hu
    rw [membT]
    have h1 : Utf.ok (ks.headD ByteArray.empty).data.toList = true := by
      cases ks with
      | nil => exact ok_nilB
      | cons k ks => exact hk k (by simp)
    have h2 : ∀ k ∈ ks.tail, Utf.ok k.data.toList = true := fun k h => hk k (List.mem_of_mem_tail h)
    refine Utf.ok_app (Utf.ok_app (Utf.ok_app (Utf.ok_app ?_ (ok_quote h1)) (ok_one (by decide))) (ok_valT v hg.1 hu.1)) (ok_membT vs ks.tail false hg.2 hu.2 h2)
    split
    · exact Utf.ok_nil
    · exact ok_one (by decide)
end

mutual
/-- At most so many lists and objects stand one in the other. -/
def DeepV : Nat → Val → Prop
  | d, .mk _ _ _ _ l _ => 0 < d ∧ DeepL (d - 1) l
def DeepL : Nat → List Val → Prop
  | _, [] => True
  | d, v :: vs => DeepV d v ∧ DeepL d vs
end

theorem DeepL.at {d : Nat} : ∀ {l : List Val}, DeepL d l → ∀ j (h : j < l.length), DeepV d l[j]
  | [], _, j, h => by simp at h
  | v :: vs, hp, 0, _ => by
    simp only [DeepL] at hp
    simpa using hp.1
  | v :: vs, hp, j + 1, h => by
    simp only [DeepL] at hp
    simpa using DeepL.at hp.2 j (by simpa using h)

mutual
theorem Deep_of : ∀ (d : Nat) (v : Val), PlainV d v → DeepV d v
  | d, .mk k i r t l ks, h => by
    simp only [PlainV] at h
    simp only [DeepV]
    exact ⟨h.1, DeepL_of (d - 1) l h.2.2.2.2.2.2.2.2.2⟩
theorem DeepL_of : ∀ (d : Nat) (l : List Val), PlainL d l → DeepL d l
  | _, [], _ => by simp [DeepL]
  | d, v :: vs, h => by
    simp only [PlainL] at h
    simp only [DeepL]
    exact ⟨Deep_of d v h.1, DeepL_of d vs h.2⟩
end

theorem Deep_null {d : Nat} {v : Val} (h : DeepV d v) : DeepV d nullV := by
  obtain ⟨k, i, r, t, l, ks⟩ := v
  unfold nullV
  simp only [DeepV] at h ⊢
  exact ⟨h.1, by simp [DeepL]⟩

mutual
theorem Deep_red (way : Int) : ∀ (d : Nat) (v : Val), DeepV d v → DeepV d (redV way v)
  | d, .mk k i r t l ks, h => by
    simp only [DeepV] at h
    simp only [redV, DeepV]
    exact ⟨h.1, DeepL_red way (d - 1) l h.2⟩
theorem DeepL_red (way : Int) : ∀ (d : Nat) (l : List Val), DeepL d l → DeepL d (redL way l)
  | _, [], _ => by simp [redL, DeepL]
  | d, v :: vs, h => by
    simp only [DeepL] at h
    have h1 := Deep_red way d v h.1
    have h2 := DeepL_red way d vs h.2
    have h3 := Deep_null h.1
    simp only [redL]
    split
    · simpa using h2
    · split
      · simp only [List.cons_append, List.nil_append, DeepL]; exact ⟨h3, h2⟩
      · simp only [List.cons_append, List.nil_append, DeepL]; exact ⟨h1, h2⟩
end
end Go.Proofs.YtokmkkkanphihaaGreatRDoor
