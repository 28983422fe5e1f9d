/- UTF-8, as spec.IsUTF8 has it: plain facts. -/
import Derived.Test.YtokmkkkanphihaaGreatRDoorYEnc
namespace Go.Proofs.YtokmkkkanphihaaGreatRDoor.Utf

def nB (c : Nat) : Nat := if c / 32 = 6 then 2 else if c / 16 = 14 then 3 else if c / 8 = 30 then 4 else 0
def least (n : Nat) : Nat := if n = 2 then 128 else if n = 3 then 2048 else 65536
def cvU (n c : Nat) (s : List UInt8) : Nat := s.foldl (fun a b => a * 64 + b.toNat % 64) (c % 2 ^ (7 - n))
def okV (n v : Nat) : Bool := decide (least n ≤ v) && decide (v ≤ 1114111) && !(decide (55296 ≤ v) && decide (v < 57344))
def okSeg (n c : Nat) (s : List UInt8) : Bool := s.all (fun b => b.toNat / 64 == 2) && okV n (cvU n c s)

/-- Whether a text is UTF-8. -/
def ok : List UInt8 → Bool
  | [] => true
  | c :: rest => if c.toNat < 128 then ok rest else if nB c.toNat = 0 then false else if rest.length < nB c.toNat - 1 then false else okSeg (nB c.toNat) c.toNat (rest.take (nB c.toNat - 1)) && ok (rest.drop (nB c.toNat - 1))
termination_by l => l.length
decreasing_by
  · simp
  · simp; omega

theorem ok_nil : ok [] = true := by rw [ok]
theorem ok_ascii {c : UInt8} (h : c.toNat < 128) (l : List UInt8) : ok (c :: l) = ok l := by rw [ok, if_pos h]
theorem ok_big {c : UInt8} (h : ¬ c.toNat < 128) (l : List UInt8) : ok (c :: l) = if nB c.toNat = 0 then false else if l.length < nB c.toNat - 1 then false else okSeg (nB c.toNat) c.toNat (l.take (nB c.toNat - 1)) && ok (l.drop (nB c.toNat - 1)) := by
  rw [ok, if_neg h]

theorem nB_cases (c : Nat) : nB c = 0 ∨ nB c = 2 ∨ nB c = 3 ∨ nB c = 4 := by
  unfold nB
  split
  · simp
  · split
    · simp
    · split <;> simp

/-- A text that is UTF-8 ahead of another changes nothing. -/
theorem ok_append : ∀ (n : Nat) (a b : List UInt8), a.length ≤ n → ok a = true → ok (a ++ b) = ok b
  | _, [], b, _, _ => rfl
  | 0, c :: a, b, h, _ => by simp at h
  | n + 1, c :: a, b, h, ha => by
    simp only [List.length_cons] at h
    by_cases hc : c.toNat < 128
    · rw [ok_ascii hc] at ha
      rw [List.cons_append, ok_ascii hc]
      exact ok_append n a b (by omega) ha
    · rw [ok_big hc] at ha
      rw [List.cons_append, ok_big hc]
      by_cases h0 : nB c.toNat = 0
      · rw [if_pos h0] at ha; cases ha
      · rw [if_neg h0] at ha ⊢
        by_cases h1 : a.length < nB c.toNat - 1
        · rw [if_pos h1] at ha; cases ha
        · rw [if_neg h1, Bool.and_eq_true] at ha
          rw [if_neg (by simp; omega), List.take_append_of_le_length (by omega), List.drop_append_of_le_length (by omega), ha.1, Bool.true_and]
          exact ok_append n _ b (by simp; omega) ha.2

theorem ok_app {a b : List UInt8} (ha : ok a = true) (hb : ok b = true) : ok (a ++ b) = true := (ok_append _ a b (Nat.le_refl _) ha).trans hb

theorem ok_all : ∀ l : List UInt8, (∀ c ∈ l, c.toNat < 128) → ok l = true
  | [], _ => ok_nil
  | c :: l, h => by
    rw [ok_ascii (h c (by simp))]
    exact ok_all l fun d hd => h d (by simp [hd])

theorem escB_ascii {c : UInt8} (h : c.toNat < 128) : ∀ d ∈ escB c, d.toNat < 128 := by
  have : ∀ x : Fin 128, ∀ d ∈ escB (UInt8.ofNat x.val), d.toNat < 128 := by decide +kernel
  have h2 := this ⟨c.toNat, h⟩
  simpa using h2

theorem escB_big {c : UInt8} (h : ¬ c.toNat < 128) : escB c = [c] := by
  unfold escB
  rw [if_pos ⟨by omega, by omega, by omega⟩]

theorem esc_big : ∀ l : List UInt8, (∀ c ∈ l, ¬ c.toNat < 128) → esc l = l
  | [], _ => rfl
  | c :: l, h => by
    have h1 := escB_big (h c (by simp))
    have h2 := esc_big l fun d hd => h d (by simp [hd])
    unfold esc at *
    rw [List.flatMap_cons, h1, h2]
    rfl

theorem esc_app (a b : List UInt8) : esc (a ++ b) = esc a ++ esc b := by simp [esc]

/-- What the encoder makes of a text of UTF-8 is UTF-8. -/
theorem ok_esc : ∀ (n : Nat) (l : List UInt8), l.length ≤ n → ok l = true → ok (esc l) = true
  | _, [], _, _ => ok_nil
  | 0, c :: l, h, _ => by simp at h
  | n + 1, c :: l, h, hl => by
    simp only [List.length_cons] at h
    have hcons : esc (c :: l) = escB c ++ esc l := by simp [esc]
    by_cases hc : c.toNat < 128
    · rw [ok_ascii hc] at hl
      rw [hcons]
      exact ok_app (ok_all _ (escB_ascii hc)) (ok_esc n l (by omega) hl)
    · rw [ok_big hc] at hl
      by_cases h0 : nB c.toNat = 0
      · rw [if_pos h0] at hl; cases hl
      · rw [if_neg h0] at hl
        by_cases h1 : l.length < nB c.toNat - 1
        · rw [if_pos h1] at hl; cases hl
        · rw [if_neg h1, Bool.and_eq_true] at hl
          have hseg := hl.1
          unfold okSeg at hseg
          rw [Bool.and_eq_true, List.all_eq_true] at hseg
          have hbig : ∀ d ∈ l.take (nB c.toNat - 1), ¬ d.toNat < 128 := fun d hd => by
            have := hseg.1 d hd
            simp only [beq_iff_eq] at this
            omega
          have hsplit : esc l = l.take (nB c.toNat - 1) ++ esc (l.drop (nB c.toNat - 1)) := by
            conv => lhs; rw [← List.take_append_drop (nB c.toNat - 1) l]
            rw [esc_app, esc_big _ hbig]
          have hlen : (l.take (nB c.toNat - 1)).length = nB c.toNat - 1 := by rw [List.length_take]; omega
          rw [hcons, escB_big hc, hsplit, List.singleton_append, ok_big hc, if_neg h0, if_neg (by simp only [List.length_append, hlen]; omega)]
          rw [List.take_append_of_le_length (by omega), List.take_of_length_le (by omega), List.drop_append_of_le_length (by omega), List.drop_of_length_le (by omega), List.nil_append]
          rw [Bool.and_eq_true]
          refine ⟨hl.1, ok_esc n _ (by simp; omega) hl.2⟩
end Go.Proofs.YtokmkkkanphihaaGreatRDoor.Utf
