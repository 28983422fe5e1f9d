/- A value as it lies in the memory, with the blocks that it leads to; what 'Only' leaves of a value. -/
import Derived.Test.YtokmkkkanphihaaGreatRDoorYRdd
namespace Go.Proofs.YtokmkkkanphihaaGreatRDoor
open Go.RowKit Go.Sort

mutual
/-- The value v lies at block b from cell o on; what it leads to lies in blocks of S. -/
def QVal (S : Nat → Prop) (w : World) : Val → Nat → Nat → Prop
  | .mk k i r t l ks, b, o =>
    w.cell? ⟨b, o, none⟩ = some (.int .i64 k) ∧ w.cell? ⟨b, o + 1, none⟩ = some (.int .i64 i) ∧ w.cell? ⟨b, o + 2, none⟩ = some (.float .f64 r) ∧ w.cell? ⟨b, o + 3, none⟩ = some (.string t) ∧
    (∃ v, w.cell? ⟨b, o + 4, none⟩ = some v ∧ ∃ ao c, v = .slice ao l.length c ∧ (l = [] ∨ ∃ b2 o2, ao = some ⟨b2, o2, none⟩ ∧ S b2 ∧ QVals S w l b2 o2)) ∧
    (∃ v, w.cell? ⟨b, o + 5, none⟩ = some v ∧ KeysIn S w ks v)
def QVals (S : Nat → Prop) (w : World) : List Val → Nat → Nat → Prop
  | [], _, _ => True
  | v :: vs, b, o => QVal S w v b o ∧ QVals S w vs b (o + 6)
end

/-- The values that lie in a slice. -/
def ValsIn (S : Nat → Prop) (w : World) (l : List Val) (v : Value) : Prop :=
  ∃ ao c, v = .slice ao l.length c ∧ (l = [] ∨ ∃ b2 o2, ao = some ⟨b2, o2, none⟩ ∧ S b2 ∧ QVals S w l b2 o2)

def QSubs (S : Nat → Prop) (w : World) : Val → Value → Value → Prop
  | .mk _ _ _ _ l ks, ls, kv => ValsIn S w l ls ∧ KeysIn S w ks kv

mutual
theorem QVal.step {S S' : Nat → Prop} {w w' : World} (hb : ∀ k, S k → w'.heap[k]? = w.heap[k]?) (hS : ∀ k, S k → S' k) : ∀ {v : Val} {b b' o o' : Nat}, QVal S w v b o → (∀ j, j < 6 → w'.cell? ⟨b', o' + j, none⟩ = w.cell? ⟨b, o + j, none⟩) → QVal S' w' v b' o'
  | .mk k i r t l ks, b, b', o, o', h, hc => by
    simp only [QVal] at h ⊢
    obtain ⟨c0, c1, c2, c3, ⟨v4, c4, ao, c, e4, h4⟩, ⟨v5, c5, h5⟩⟩ := h
    refine ⟨(hc 0 (by decide)).trans c0, (hc 1 (by decide)).trans c1, (hc 2 (by decide)).trans c2, (hc 3 (by decide)).trans c3, ⟨v4, (hc 4 (by decide)).trans c4, ao, c, e4, ?_⟩, ⟨v5, (hc 5 (by decide)).trans c5, h5.step hb hS⟩⟩
    rcases h4 with h4 | ⟨b2, o2, k1, k2, k3⟩
    · exact .inl h4
    · exact .inr ⟨b2, o2, k1, hS _ k2, QVals.step hb hS k3 fun j _ => World.cell?_of_block (hb b2 k2)⟩
theorem QVals.step {S S' : Nat → Prop} {w w' : World} (hb : ∀ k, S k → w'.heap[k]? = w.heap[k]?) (hS : ∀ k, S k → S' k) : ∀ {l : List Val} {b b' o o' : Nat}, QVals S w l b o → (∀ j, j < 6 * l.length → w'.cell? ⟨b', o' + j, none⟩ = w.cell? ⟨b, o + j, none⟩) → QVals S' w' l b' o'
  | [], _, _, _, _, _, _ => by simp [QVals]
  | v :: vs, b, b', o, o', h, hc => by
    simp only [QVals] at h ⊢
    simp only [List.length_cons] at hc
    refine ⟨QVal.step hb hS h.1 fun j hj => hc j (by omega), QVals.step hb hS h.2 fun j hj => ?_⟩
    have := hc (6 + j) (by omega)
    rw [show o' + 6 + j = o' + (6 + j) by omega, show o + 6 + j = o + (6 + j) by omega]
    exact this
end

theorem ValsIn.step {S S' : Nat → Prop} {w w' : World} {l : List Val} {v : Value} (h : ValsIn S w l v) (hb : ∀ k, S k → w'.heap[k]? = w.heap[k]?) (hS : ∀ k, S k → S' k) : ValsIn S' w' l v := by
  obtain ⟨ao, c, rfl, h⟩ := h
  refine ⟨ao, c, rfl, ?_⟩
  rcases h with h | ⟨b2, o2, h1, h2, h3⟩
  · exact .inl h
  · exact .inr ⟨b2, o2, h1, hS _ h2, QVals.step hb hS h3 fun j _ => World.cell?_of_block (hb b2 h2)⟩

theorem QSubs.step {S S' : Nat → Prop} {w w' : World} {v : Val} {ls kv : Value} (h : QSubs S w v ls kv) (hb : ∀ k, S k → w'.heap[k]? = w.heap[k]?) (hS : ∀ k, S k → S' k) : QSubs S' w' v ls kv := by
  obtain ⟨k, i, r, t, l, ks⟩ := v
  exact ⟨h.1.step hb hS, h.2.step hb hS⟩

theorem aggV_len (v : Val) (ls kv : Value) : (aggV v ls kv).toList.length = 6 := by
  obtain ⟨k, i, r, t, l, ks⟩ := v
  rfl

theorem QVal.of {S : Nat → Prop} {w : World} {v : Val} {b o : Nat} {ls kv : Value} (hs : QSubs S w v ls kv) (hc : ∀ j (hj : j < 6), w.cell? ⟨b, o + j, none⟩ = some ((aggV v ls kv)[j]'(by obtain ⟨k, i, r, t, l, ks⟩ := v; exact hj))) : QVal S w v b o := by
  obtain ⟨k, i, r, t, l, ks⟩ := v
  simp only [QVal]
  exact ⟨hc 0 (by decide), hc 1 (by decide), hc 2 (by decide), hc 3 (by decide), ⟨ls, hc 4 (by decide), hs.1⟩, ⟨kv, hc 5 (by decide), hs.2⟩⟩

/-- What a row of values holds, so far. -/
def RowV (S : Nat → Prop) (w : World) (l : List Val) (xs : List Value) : Prop :=
  xs.length = 6 * l.length ∧ ∀ j (h : j < l.length), ∃ ls kv, QSubs S w l[j] ls kv ∧ (xs.drop (6 * j)).take 6 = (aggV l[j] ls kv).toList

theorem RowV.nil (S : Nat → Prop) (w : World) : RowV S w [] [] := ⟨rfl, fun j h => by simp at h⟩

theorem RowV.step {S S' : Nat → Prop} {w w' : World} {l : List Val} {xs : List Value} (h : RowV S w l xs) (hb : ∀ k, S k → w'.heap[k]? = w.heap[k]?) (hS : ∀ k, S k → S' k) : RowV S' w' l xs := by
  refine ⟨h.1, fun j hj => ?_⟩
  obtain ⟨ls, kv, h1, h2⟩ := h.2 j hj
  exact ⟨ls, kv, h1.step hb hS, h2⟩

theorem RowV.snoc {S : Nat → Prop} {w : World} {l : List Val} {v : Val} {xs : List Value} {ls kv : Value} (h : RowV S w l xs) (hv : QSubs S w v ls kv) : RowV S w (l ++ [v]) (xs ++ (aggV v ls kv).toList) := by
  have h1 := h.1
  have hl := aggV_len v ls kv
  refine ⟨by simp only [List.length_append, List.length_singleton, h1, hl]; omega, fun j hj => ?_⟩
  by_cases hjl : j < l.length
  · obtain ⟨ls', kv', k1, k2⟩ := h.2 j hjl
    have e : (l ++ [v])[j] = l[j] := List.getElem_append_left hjl
    rw [e]
    refine ⟨ls', kv', k1, ?_⟩
    rw [List.drop_append_of_le_length (by omega), List.take_append_of_le_length (by rw [List.length_drop]; omega)]
    exact k2
  · have hj' : j = l.length := by simp at hj; omega
    subst hj'
    have e : (l ++ [v])[l.length] = v := by simp
    rw [e]
    refine ⟨ls, kv, hv, ?_⟩
    rw [← h1, List.drop_left, List.take_of_length_le (by omega)]

/-- A row of values that is owned is a list of values. -/
theorem ValsIn.of {S : Nat → Prop} {w : World} {N : Nat} {l : List Val} {xs : List Value} {v : Value} (h : w.ownsRow N 26 6 v l.length xs) (hr : RowV S w l xs) (hS : ∀ g, v.ownBlock = some g → S g) : ValsIn S w l v := by
  rcases h.2 with ⟨rfl, h0⟩ | ⟨g, cap, cur, rfl, hg, hb, _, _, hcs, htk⟩
  · exact ⟨none, 0, by rw [h0], .inl (List.length_eq_zero_iff.1 h0)⟩
  · refine ⟨_, _, rfl, .inr ⟨g, 0, rfl, hS g rfl, ?_⟩⟩
    have hcell : ∀ m, m < 6 * l.length → w.cell? ⟨g, 0 + m, none⟩ = xs[m]? := fun m hm => by
      have h1 : w.cell? ⟨g, 0 + m, none⟩ = cur[m]? := by rw [Nat.zero_add]; simp [World.cell?, hb]
      rw [h1, ← htk, List.getElem?_take_of_lt (by omega)]
      simp
    have key : ∀ (n : Nat) (a b : List Val), l = a ++ b → b.length = n → QVals S w b g (6 * a.length) := by
      intro n
      induction n with
      | zero =>
        intro a b e hb
        obtain rfl : b = [] := List.length_eq_zero_iff.1 hb
        simp [QVals]
      | succ n ih =>
        intro a b e hbl
        match b, hbl with
        | z :: b, hbl =>
          simp only [QVals]
          have hz : a.length < l.length := by rw [e]; simp
          have hzl : l[a.length] = z := by simp [e]
          obtain ⟨ls, kv, h1, h2⟩ := hr.2 a.length hz
          rw [hzl] at h1 h2
          refine ⟨QVal.of h1 fun j hj => ?_, ?_⟩
          · have h3 := hcell (6 * a.length + j) (by rw [e]; simp; omega)
            rw [Nat.zero_add] at h3
            rw [h3]
            have h4 : xs[6 * a.length + j]? = ((xs.drop (6 * a.length)).take 6)[j]? := by
              rw [List.getElem?_take_of_lt hj, List.getElem?_drop]
            rw [h4, h2]
            simp
          · have := ih (a ++ [z]) b (by rw [e]; simp) (by simpa using hbl)
            rw [List.length_append, List.length_singleton, show 6 * (a.length + 1) = 6 * a.length + 6 by omega] at this
            exact this
    exact key l.length [] l rfl rfl

mutual
theorem QVal.down {S : Nat → Prop} {w : World} {N : Nat} (hS : ∀ k, S k → k < N) : ∀ {v : Val} {b o : Nat}, b < N → QVal S w v b o → PVal N w v b o
  | .mk k i r t l ks, b, o, hb, h => by
    simp only [QVal] at h
    simp only [PVal]
    obtain ⟨c0, c1, c2, c3, ⟨v4, c4, ao, c, rfl, h4⟩, ⟨v5, c5, ko, kc, rfl, h5⟩⟩ := h
    refine ⟨hb, c0, c1, c2, c3, ⟨ao, c, c4, ?_⟩, ⟨ko, kc, c5, ?_⟩⟩
    · rcases h4 with h4 | ⟨b2, o2, k1, k2, k3⟩
      · exact .inl h4
      · exact .inr ⟨b2, o2, k1, QVals.down hS (hS b2 k2) k3⟩
    · rcases h5 with h5 | ⟨b2, o2, k1, k2, k3⟩
      · exact .inl h5
      · exact .inr ⟨b2, o2, k1, hS b2 k2, k3⟩
theorem QVals.down {S : Nat → Prop} {w : World} {N : Nat} (hS : ∀ k, S k → k < N) : ∀ {l : List Val} {b o : Nat}, b < N → QVals S w l b o → PList N w l b o
  | [], _, _, _, _ => by simp [PList]
  | v :: vs, b, o, hb, h => by
    simp only [QVals] at h
    simp only [PList]
    exact ⟨QVal.down hS hb h.1, QVals.down hS hb h.2⟩
end

theorem QSubs.down {S : Nat → Prop} {w : World} {N : Nat} {v : Val} {ls kv : Value} (hS : ∀ k, S k → k < N) (h : QSubs S w v ls kv) : Subs N w v ls kv := by
  obtain ⟨k, i, r, t, l, ks⟩ := v
  obtain ⟨⟨ao, c, rfl, h4⟩, ⟨ko, kc, rfl, h5⟩⟩ := h
  refine ⟨⟨ao, c, rfl, ?_⟩, ⟨ko, kc, rfl, ?_⟩⟩
  · rcases h4 with h4 | ⟨b2, o2, k1, k2, k3⟩
    · exact .inl h4
    · exact .inr ⟨b2, o2, k1, QVals.down hS (hS b2 k2) k3⟩
  · rcases h5 with h5 | ⟨b2, o2, k1, k2, k3⟩
    · exact .inl h5
    · exact .inr ⟨b2, o2, k1, hS b2 k2, k3⟩

/-! What is left of a value. -/
mutual
/-- A value with what its kind has alone. -/
def clnV : Val → Val
  | .mk k i r t l ks => .mk k (if k = 2 ∨ k = 3 then i else 0) (if k = 4 then r else 0) (if k = 5 then t else ByteArray.empty) (clnL l) ks
def clnL : List Val → List Val
  | [] => []
  | v :: vs => clnV v :: clnL vs
end

theorem clnL_len : ∀ l : List Val, (clnL l).length = l.length
  | [] => rfl
  | v :: vs => by simp [clnL, clnL_len vs]
theorem clnL_app : ∀ a b : List Val, clnL (a ++ b) = clnL a ++ clnL b
  | [], b => by simp [clnL]
  | v :: a, b => by simp [clnL, clnL_app a b]

mutual
theorem valT_cln : ∀ v : Val, Good v → valT (clnV v) = valT v
  | .mk k i r t l ks, h => by
    simp only [Good] at h
    obtain ⟨⟨h1, h7⟩, _, _, _, _, _, hl⟩ := h
    have hL := listT_cln l true hl
    have hM := membT_cln l ks true hl
    simp only [clnV]
    rw [valT, valT]
    have hcases : k = 1 ∨ k = 2 ∨ k = 3 ∨ k = 4 ∨ k = 5 ∨ k = 6 ∨ k = 7 := by omega
    rcases hcases with rfl | rfl | rfl | rfl | rfl | rfl | rfl
    · rfl
    · rfl
    · rfl
    · rfl
    · rfl
    · simp [hL]
    · simp [hM]
theorem listT_cln : ∀ (l : List Val) (f : Bool), GoodL l → listT (clnL l) f = listT l f
  | [], _, _ => by simp [clnL]
  | v :: vs, f, h => by
    simp only [GoodL] at h
    simp only [clnL]
    rw [listT, listT, valT_cln v h.1, listT_cln vs false h.2]
theorem membT_cln : ∀ (l : List Val) (ks : List ByteArray) (f : Bool), GoodL l → membT (clnL l) ks f = membT l ks f
  | [], _, _, _ => by simp [clnL]
  | v :: vs, ks, f, h => by
    simp only [GoodL] at h
    simp only [clnL]
    rw [membT, membT, valT_cln v h.1, membT_cln vs ks.tail false h.2]
end

mutual
theorem Good_cln : ∀ v : Val, Good v → Good (clnV v)
  | .mk k i r t l ks, h => by
    simp only [Good] at h
    obtain ⟨h1, h2, h3, h4, h5, h6, h7⟩ := h
    simp only [clnV, Good]
    refine ⟨h1, ?_, fun hk => ?_, fun hk => by rw [clnL_len]; exact h4 hk, fun hk => by rw [h5 hk]; rfl, h6, GoodL_cln l h7⟩
    · split <;> omega
    · rw [if_pos hk]; exact h3 hk
theorem GoodL_cln : ∀ l : List Val, GoodL l → GoodL (clnL l)
  | [], _ => by simp [clnL, GoodL]
  | v :: vs, h => by
    simp only [GoodL] at h
    simp only [clnL, GoodL]
    exact ⟨Good_cln v h.1, GoodL_cln vs h.2⟩
end

mutual
theorem Deep_cln : ∀ (d : Nat) (v : Val), DeepV d v → DeepV d (clnV v)
  | d, .mk k i r t l ks, h => by
    simp only [DeepV] at h
    simp only [clnV, DeepV]
    exact ⟨h.1, DeepL_cln (d - 1) l h.2⟩
theorem DeepL_cln : ∀ (d : Nat) (l : List Val), DeepL d l → DeepL d (clnL l)
  | _, [], _ => by simp [clnL, DeepL]
  | d, v :: vs, h => by
    simp only [DeepL] at h
    simp only [clnL, DeepL]
    exact ⟨Deep_cln d v h.1, DeepL_cln d vs h.2⟩
end

mutual
theorem Utf8_cln : ∀ v : Val, Utf8V v → Utf8V (clnV v)
  | .mk k i r t l ks, h => by
    simp only [Utf8V] at h
    simp only [clnV, Utf8V]
    refine ⟨?_, h.2.1, Utf8L_cln l h.2.2⟩
    split
    · exact h.1
    · exact ok_nilB
theorem Utf8L_cln : ∀ l : List Val, Utf8L l → Utf8L (clnL l)
  | [], _ => by simp [clnL, Utf8L]
  | v :: vs, h => by
    simp only [Utf8L] at h
    simp only [clnL, Utf8L]
    exact ⟨Utf8_cln v h.1, Utf8L_cln vs h.2⟩
end

theorem Utf8_null : Utf8V nullV := by
  unfold nullV
  simp only [Utf8V]
  exact ⟨ok_nilB, by simp, by simp [Utf8L]⟩

mutual
theorem Utf8_red (way : Int) : ∀ v : Val, Utf8V v → Utf8V (redV way v)
  | .mk k i r t l ks, h => by
    simp only [Utf8V] at h
    simp only [redV, Utf8V]
    refine ⟨h.1, ?_, Utf8L_red way l h.2.2⟩
    split
    · exact Utf8K_red way l ks h.2.1
    · exact h.2.1
theorem Utf8L_red (way : Int) : ∀ l : List Val, Utf8L l → Utf8L (redL way l)
  | [], _ => by simp [redL, Utf8L]
  | v :: vs, h => by
    simp only [Utf8L] at h
    have h1 := Utf8_red way v h.1
    have h2 := Utf8L_red way vs h.2
    simp only [redL]
    split
    · simpa using h2
    · split
      · simp only [List.cons_append, List.nil_append, Utf8L]; exact ⟨Utf8_null, h2⟩
      · simp only [List.cons_append, List.nil_append, Utf8L]; exact ⟨h1, h2⟩
theorem Utf8K_red (way : Int) : ∀ (l : List Val) (ks : List ByteArray), (∀ k ∈ ks, Utf.ok k.data.toList = true) → ∀ k ∈ redK way l ks, Utf.ok k.data.toList = true
  | [], _, _ => by simp [redK]
  | v :: vs, ks, h => by
    have h2 := Utf8K_red way vs ks.tail (fun k hk => h k (List.mem_of_mem_tail hk))
    simp only [redK]
    intro k hk
    rcases List.mem_append.1 hk with hk | hk
    · split at hk
      · simp at hk
      · rw [List.mem_singleton] at hk
        subst hk
        cases ks with
        | nil => exact ok_nilB
        | cons a b => exact h a (by simp)
    · exact h2 k hk
end

mutual
theorem vsz_cln : ∀ v : Val, vsz (clnV v) = vsz v
  | .mk k i r t l ks => by simp only [clnV, vsz, vszL_cln l]
theorem vszL_cln : ∀ l : List Val, vszL (clnL l) = vszL l
  | [] => by simp [clnL]
  | v :: vs => by simp only [clnL, vszL, vsz_cln v, vszL_cln vs]
end

theorem vsz_pos (v : Val) : 1 ≤ vsz v := by
  obtain ⟨k, i, r, t, l, ks⟩ := v
  simp only [vsz]
  omega

mutual
theorem vsz_red (way : Int) : ∀ v : Val, vsz (redV way v) ≤ vsz v
  | .mk k i r t l ks => by
    have := vszL_red way l
    simp only [redV, vsz]
    omega
theorem vszL_red (way : Int) : ∀ l : List Val, vszL (redL way l) ≤ vszL l
  | [] => by simp [redL]
  | v :: vs => by
    have h1 := vsz_red way v
    have h2 := vszL_red way vs
    have h3 := vsz_pos v
    have h4 : vsz nullV = 1 := by unfold nullV; simp [vsz, vszL]
    simp only [redL]
    split
    · simp only [List.nil_append, vszL]; omega
    · split
      · simp only [List.cons_append, List.nil_append, vszL]; omega
      · simp only [List.cons_append, List.nil_append, vszL]; omega
end
end Go.Proofs.YtokmkkkanphihaaGreatRDoor
