/- What impl.put and impl.putKey write of a value, by induction. -/
import Derived.Test.YtokmkkkanphihaaGreatRDoorMethB
import Derived.Test.YtokmkkkanphihaaGreatRDoorPutA
import Derived.Test.YtokmkkkanphihaaGreatRDoorPutL
namespace Go.Proofs.YtokmkkkanphihaaGreatRDoor
open Go.RowKit Go.Sort

mutual
def vsz : Val → Nat
  | .mk _ _ _ _ l _ => 1 + vszL l
def vszL : List Val → Nat
  | [] => 0
  | v :: vs => vsz v + vszL vs
end

theorem vszL_at : ∀ {l : List Val} (j : Nat) (h : j < l.length), vsz l[j] ≤ vszL l
  | [], j, h => by simp at h
  | v :: vs, 0, _ => by simp [vszL]
  | v :: vs, j + 1, h => by
    have := vszL_at (l := vs) j (by simpa using h)
    simp [vszL]; omega

theorem vszL_len : ∀ l : List Val, l.length ≤ vszL l
  | [] => by simp
  | .mk k i r t a b :: vs => by
    have := vszL_len vs
    simp [vszL, vsz]; omega

mutual
theorem vsz_cost : ∀ v : Val, vsz v ≤ cost v
  | .mk k i r t l ks => by
    have := vszL_cost l
    simp only [vsz, cost]; omega
theorem vszL_cost : ∀ l : List Val, vszL l ≤ costL l
  | [] => by simp [vszL]
  | v :: vs => by
    have h1 := vsz_cost v
    have h2 := vszL_cost vs
    simp only [vszL, costL]; omega
end

theorem item_zero (v : Val) : item 0 v = some (redV 0 v) := by
  unfold item
  rw [if_neg (by simp), if_neg (by simp)]

theorem sep_a {c op : UInt8} (h : c = op) : sepT c op = [] := by unfold sepT; rw [if_pos h]
theorem sep_b {c op : UInt8} (h : c ≠ op) : sepT c op = [44] := by unfold sepT; rw [if_neg h]

/-- What a value's method for the list does is what 'put' does. -/
theorem put_all (n : Nat) : ∀ v : Val, vsz v ≤ n → Good v → PutC 149 0 v ∧ PutK 152 0 v := by
  induction n with
  | zero => intro v hv _; cases v; simp [vsz] at hv
  | succ n ih =>
    intro v hv hG
    obtain ⟨k, i, r, t, l, ks⟩ := v
    have hGG := hG
    simp only [Good] at hG
    obtain ⟨⟨hk1, hk7⟩, ⟨hi0, hi1⟩, hr, hkl, hl6, hk7', hGL⟩ := hG
    simp only [vsz] at hv
    have ihp : ∀ j (h : j < l.length), PutC 149 0 l[j] ∧ PutK 152 0 l[j] := fun j h =>
      ih l[j] (by have := vszL_at j h; omega) (hGL.at j h)
    have hitem : item 0 (.mk k i r t l ks) = some (redV 0 (.mk k i r t l ks)) := item_zero _
    have hcases : k = 1 ∨ k = 2 ∨ k = 3 ∨ k = 4 ∨ k = 5 ∨ k = 6 ∨ k = 7 := by omega
    have hvl := vszL_len l
    have hvc := vszL_cost l
    refine ⟨?_, ?_⟩
    · intro w0 w b0 N e s b o c x hB hP hE ho hc3 hhk hks hroom
      have hlow := hE.low hB
      have hP' := hP
      simp only [PVal] at hP'
      obtain ⟨hbN, c0, c1, c2, c3, ⟨ao, cc, c4, hl⟩, _⟩ := hP'
      have e0 : ∀ q, w.cell? ⟨b, q, none⟩ = w0.cell? ⟨b, q, none⟩ := fun q => World.cell?_of_block (hlow b hbN)
      have d0 := (e0 o).trans c0
      have d1 := (e0 (o + 1)).trans c1
      have d2 := (e0 (o + 2)).trans c2
      have d3 := (e0 (o + 3)).trans c3
      simp only [cost] at hroom
      rw [hitem]
      simp only [itemT, redV]
      rcases hcases with rfl | rfl | rfl | rfl | rfl | rfl | rfl
      · have ev : valT (.mk 1 i r t (redL 0 l) (if (1 : Int) = 7 then redK 0 l ks else ks)) = [110, 117, 108, 108] := by rw [valT]; rfl
        rw [ev]
        refine put_1 d0 ?_
        by_cases hc : c = 91
        · rw [sep_a hc, List.nil_append]; exact Null_a hB hE (hc ▸ ho) (by unfold lim at *; omega)
        · rw [sep_b hc]; exact Null_b hB hE hc ho (by unfold lim at *; omega)
      · have ev : valT (.mk 2 i r t (redL 0 l) (if (2 : Int) = 7 then redK 0 l ks else ks)) = boolTxt (i == 1) := by rw [valT]; rfl
        rw [ev]
        refine put_2 d0 d1 ?_
        rcases hb : (i == 1) with _ | _
        · by_cases hc : c = 91
          · rw [sep_a hc, List.nil_append]; exact BoolF_a hB hE (hc ▸ ho) (by unfold lim at *; omega)
          · rw [sep_b hc]; exact BoolF_b hB hE hc ho (by unfold lim at *; omega)
        · by_cases hc : c = 91
          · rw [sep_a hc, List.nil_append]; exact BoolT_a hB hE (hc ▸ ho) (by unfold lim at *; omega)
          · rw [sep_b hc]; exact BoolT_b hB hE hc ho (by unfold lim at *; omega)
      · have ev : valT (.mk 3 i r t (redL 0 l) (if (3 : Int) = 7 then redK 0 l ks else ks)) = Lib.itoa i := by rw [valT]; rfl
        rw [ev]
        refine put_3 d0 d1 ?_
        by_cases hc : c = 91
        · rw [sep_a hc, List.nil_append]; exact Int64_a hB hE (hc ▸ ho) (by unfold lim at *; omega) hi0 hi1
        · rw [sep_b hc]; exact Int64_b hB hE hc ho (by unfold lim at *; omega) hi0 hi1
      · have ev : valT (.mk 4 i r t (redL 0 l) (if (4 : Int) = 7 then redK 0 l ks else ks)) = realT r := by rw [valT]; rfl
        rw [ev]
        refine put_4 d0 d2 ?_
        have ht := realT_spec (hr rfl)
        by_cases hc : c = 91
        · rw [sep_a hc, List.nil_append]; exact Float64_a hB hE (hc ▸ ho) (by unfold lim at *; omega) ht
        · rw [sep_b hc]; exact Float64_b hB hE hc ho (by unfold lim at *; omega) ht
      · have ev : valT (.mk 5 i r t (redL 0 l) (if (5 : Int) = 7 then redK 0 l ks else ks)) = [34] ++ esc t.data.toList ++ [34] := by rw [valT]; rfl
        rw [ev]
        refine put_5 d0 d3 ?_
        by_cases hc : c = 91
        · rw [sep_a hc, List.nil_append]; exact String_a hB hE (hc ▸ ho) (by unfold lim at *; omega)
        · rw [sep_b hc]
          have := String_b (t := t) hB hE hc ho (by unfold lim at *; omega)
          simpa using this
      · have ev : valT (.mk 6 i r t (redL 0 l) (if (6 : Int) = 7 then redK 0 l ks else ks)) = [91] ++ listT (redL 0 l) true ++ [93] := by rw [valT]; rfl
        rw [ev]
        refine put_6 d0 ?_
        rcases List.eq_nil_or_concat l with hl0 | ⟨a, z, hlz⟩
        · subst hl0
          have hT : [91] ++ listT (redL 0 []) true ++ [93] = ([91] ++ [93] : List UInt8) := by simp [redL, listT]
          rw [hT]
          by_cases hc : c = 91
          · rw [sep_a hc, List.nil_append]; exact Array_nil_a hB hE (hc ▸ ho) (by unfold lim at *; omega) hbN c4
          · rw [sep_b hc, ← List.append_assoc]; exact Array_nil_b hB hE hc ho (by unfold lim at *; omega) hbN c4
        · have hn : (l.length == 0) = false := by rw [hlz]; simp
          have hW := marA_0 (e := e) hB hP hGL (by unfold lim at *; omega) (fun j h => (ihp j h).1)
          have hTK := hW.1
          by_cases hc : c = 91
          · rw [sep_a hc, List.nil_append]; exact Array_ne_a hB hE (hc ▸ ho) (by unfold lim at *; omega) hhk hks hbN hn c4 hW
          · rw [sep_b hc, ← List.append_assoc, ← List.append_assoc]; exact Array_ne_b hB hE hc ho (by unfold lim at *; omega) hhk hks hbN hn c4 hW
      · have ev : valT (.mk 7 i r t (redL 0 l) (if (7 : Int) = 7 then redK 0 l ks else ks)) = [123] ++ membT (redL 0 l) (redK 0 l ks) true ++ [125] := by rw [valT]; rfl
        rw [ev]
        refine put_7 d0 ?_
        rcases List.eq_nil_or_concat l with hl0 | ⟨a, z, hlz⟩
        · subst hl0
          have hT : [123] ++ membT (redL 0 []) (redK 0 [] ks) true ++ [125] = ([123] ++ [125] : List UInt8) := by simp [redL, membT]
          rw [hT]
          by_cases hc : c = 91
          · rw [sep_a hc, List.nil_append]; exact Object_nil_a hB hE (hc ▸ ho) (by unfold lim at *; omega) hbN c4
          · rw [sep_b hc, ← List.append_assoc]; exact Object_nil_b hB hE hc hc3 ho (by unfold lim at *; omega) hbN c4
        · have hn : (l.length == 0) = false := by rw [hlz]; simp
          have hW := marO_0 (e := e) hB hP hGL (by unfold lim at *; omega) (hkl rfl) (fun j h => (ihp j h).2)
          have hTK := hW.1
          by_cases hc : c = 91
          · rw [sep_a hc, List.nil_append]; exact Object_ne_a hB hE (hc ▸ ho) (by unfold lim at *; omega) hhk hks hbN hn c4 hW
          · rw [sep_b hc, ← List.append_assoc, ← List.append_assoc]; exact Object_ne_b hB hE hc ho (by unfold lim at *; omega) hhk hks hbN hn c4 hW
    · intro w0 w b0 N e s b o c x key hB hP hE ho hhk hks hroom
      have hlow := hE.low hB
      have hP' := hP
      simp only [PVal] at hP'
      obtain ⟨hbN, c0, c1, c2, c3, ⟨ao, cc, c4, hl⟩, _⟩ := hP'
      have e0 : ∀ q, w.cell? ⟨b, q, none⟩ = w0.cell? ⟨b, q, none⟩ := fun q => World.cell?_of_block (hlow b hbN)
      have d0 := (e0 o).trans c0
      have d1 := (e0 (o + 1)).trans c1
      have d2 := (e0 (o + 2)).trans c2
      have d3 := (e0 (o + 3)).trans c3
      simp only [cost] at hroom
      rw [hitem]
      simp only [membOf, redV, quoteT]
      rcases hcases with rfl | rfl | rfl | rfl | rfl | rfl | rfl
      · have ev : valT (.mk 1 i r t (redL 0 l) (if (1 : Int) = 7 then redK 0 l ks else ks)) = [110, 117, 108, 108] := by rw [valT]; rfl
        rw [ev]
        refine putKey_1 d0 ?_
        by_cases hc : c = 123
        · rw [sep_a hc]; simpa using NullKey_a (key := key) hB hE (hc ▸ ho) hhk (by unfold lim at *; omega)
        · rw [sep_b hc]; simpa using NullKey_b (key := key) hB hE hc ho hhk (by unfold lim at *; omega)
      · have ev : valT (.mk 2 i r t (redL 0 l) (if (2 : Int) = 7 then redK 0 l ks else ks)) = boolTxt (i == 1) := by rw [valT]; rfl
        rw [ev]
        refine putKey_2 d0 d1 ?_
        by_cases hc : c = 123
        · rw [sep_a hc]; simpa using BoolKey_a (key := key) (v := i == 1) hB hE (hc ▸ ho) hhk (by unfold lim at *; omega)
        · rw [sep_b hc]; simpa using BoolKey_b (key := key) (v := i == 1) hB hE hc ho hhk (by unfold lim at *; omega)
      · have ev : valT (.mk 3 i r t (redL 0 l) (if (3 : Int) = 7 then redK 0 l ks else ks)) = Lib.itoa i := by rw [valT]; rfl
        rw [ev]
        refine putKey_3 d0 d1 ?_
        by_cases hc : c = 123
        · rw [sep_a hc]; simpa using Int64Key_a (key := key) hB hE (hc ▸ ho) hhk (by unfold lim at *; omega) hi0 hi1
        · rw [sep_b hc]; simpa using Int64Key_b (key := key) hB hE hc ho hhk (by unfold lim at *; omega) hi0 hi1
      · have ev : valT (.mk 4 i r t (redL 0 l) (if (4 : Int) = 7 then redK 0 l ks else ks)) = realT r := by rw [valT]; rfl
        rw [ev]
        refine putKey_4 d0 d2 ?_
        have ht := realT_spec (hr rfl)
        by_cases hc : c = 123
        · rw [sep_a hc]; simpa using Float64Key_a (key := key) hB hE (hc ▸ ho) hhk (by unfold lim at *; omega) ht
        · rw [sep_b hc]; simpa using Float64Key_b (key := key) hB hE hc ho hhk (by unfold lim at *; omega) ht
      · have ev : valT (.mk 5 i r t (redL 0 l) (if (5 : Int) = 7 then redK 0 l ks else ks)) = [34] ++ esc t.data.toList ++ [34] := by rw [valT]; rfl
        rw [ev]
        refine putKey_5 d0 d3 ?_
        by_cases hc : c = 123
        · rw [sep_a hc]; simpa using StringKey_a (key := key) (t := t) hB hE (hc ▸ ho) hhk (by unfold lim at *; omega)
        · rw [sep_b hc]; simpa using StringKey_b (key := key) (t := t) hB hE hc ho hhk (by unfold lim at *; omega)
      · have ev : valT (.mk 6 i r t (redL 0 l) (if (6 : Int) = 7 then redK 0 l ks else ks)) = [91] ++ listT (redL 0 l) true ++ [93] := by rw [valT]; rfl
        rw [ev]
        refine putKey_6 d0 ?_
        rcases List.eq_nil_or_concat l with hl0 | ⟨a, z, hlz⟩
        · subst hl0
          have hT : [91] ++ listT (redL 0 []) true ++ [93] = ([91] ++ [93] : List UInt8) := by simp [redL, listT]
          rw [hT]
          by_cases hc : c = 123
          · rw [sep_a hc]; simpa using ArrayKey_nil_a (key := key) hB hE (hc ▸ ho) hhk (by unfold lim at *; omega) hbN c4
          · rw [sep_b hc]; simpa using ArrayKey_nil_b (key := key) hB hE hc ho hhk (by unfold lim at *; omega) hbN c4
        · have hn : (l.length == 0) = false := by rw [hlz]; simp
          have hW := marA_0 (e := e) hB hP hGL (by unfold lim at *; omega) (fun j h => (ihp j h).1)
          have hTK := hW.1
          by_cases hc : c = 123
          · rw [sep_a hc]; simpa using ArrayKey_ne_a (key := key) hB hE (hc ▸ ho) hhk (by unfold lim at *; omega) hks hbN hn c4 hW
          · rw [sep_b hc]; simpa using ArrayKey_ne_b (key := key) hB hE hc ho hhk (by unfold lim at *; omega) hks hbN hn c4 hW
      · have ev : valT (.mk 7 i r t (redL 0 l) (if (7 : Int) = 7 then redK 0 l ks else ks)) = [123] ++ membT (redL 0 l) (redK 0 l ks) true ++ [125] := by rw [valT]; rfl
        rw [ev]
        refine putKey_7 d0 ?_
        rcases List.eq_nil_or_concat l with hl0 | ⟨a, z, hlz⟩
        · subst hl0
          have hT : [123] ++ membT (redL 0 []) (redK 0 [] ks) true ++ [125] = ([123] ++ [125] : List UInt8) := by simp [redL, membT]
          rw [hT]
          by_cases hc : c = 123
          · rw [sep_a hc]; simpa using ObjectKey_nil_a (key := key) hB hE (hc ▸ ho) hhk (by unfold lim at *; omega) hbN c4
          · rw [sep_b hc]; simpa using ObjectKey_nil_b (key := key) hB hE hc ho hhk (by unfold lim at *; omega) hbN c4
        · have hn : (l.length == 0) = false := by rw [hlz]; simp
          have hW := marO_0 (e := e) hB hP hGL (by unfold lim at *; omega) (hkl rfl) (fun j h => (ihp j h).2)
          have hTK := hW.1
          by_cases hc : c = 123
          · rw [sep_a hc]; simpa using ObjectKey_ne_a (key := key) hB hE (hc ▸ ho) hhk (by unfold lim at *; omega) hks hbN hn c4 hW
          · rw [sep_b hc]; simpa using ObjectKey_ne_b (key := key) hB hE hc ho hhk (by unfold lim at *; omega) hks hbN hn c4 hW

/-- The writers of a list's and an object's values. -/
theorem marA_ok {w0 : World} {b0 : Option Nat} {N e b o : Nat} {k i : Int} {r : Nat} {t : ByteArray} {l : List Val} {ks : List ByteArray} (hB : Base w0 b0 N) (hP : PVal N w0 (.mk k i r t l ks) b o) (hG : GoodL l) (hc : costL l ≤ lim) :
    Writes 145 (treeV b o 0) w0 b0 N e 91 (listT (redL 0 l) true) (costL l) :=
  marA_0 hB hP hG (by have := vszL_len l; have := vszL_cost l; omega) (fun j h => (put_all (vsz l[j]) l[j] (Nat.le_refl _) (hG.at j h)).1)

theorem marO_ok {w0 : World} {b0 : Option Nat} {N e b o : Nat} {k i : Int} {r : Nat} {t : ByteArray} {l : List Val} {ks : List ByteArray} (hB : Base w0 b0 N) (hP : PVal N w0 (.mk k i r t l ks) b o) (hG : GoodL l) (hc : costL l ≤ lim) (hkl : ks.length = l.length) :
    Writes 146 (treeV b o 0) w0 b0 N e 123 (membT (redL 0 l) (redK 0 l ks) true) (costL l + costK ks) :=
  marO_0 hB hP hG (by have := vszL_len l; have := vszL_cost l; omega) hkl (fun j h => (put_all (vsz l[j]) l[j] (Nat.le_refl _) (hG.at j h)).2)
end Go.Proofs.YtokmkkkanphihaaGreatRDoor
