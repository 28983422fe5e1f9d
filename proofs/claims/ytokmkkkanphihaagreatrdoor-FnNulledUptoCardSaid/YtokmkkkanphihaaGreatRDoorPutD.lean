/- What impl.omit, impl.omitKey, impl.null and impl.nullKey write of a value, by induction (written by genPutD.py). -/
import Derived.Test.YtokmkkkanphihaaGreatRDoorMethC
import Derived.Test.YtokmkkkanphihaaGreatRDoorMethD
import Derived.Test.YtokmkkkanphihaaGreatRDoorPutC
import Derived.Test.YtokmkkkanphihaaGreatRDoorYGuard
namespace Go.Proofs.YtokmkkkanphihaaGreatRDoor
open Go.RowKit Go.Sort

theorem order_zero {r : Nat} (h : zeroW r = true) : (FloatKind.f64.format.order r 0 == some .eq) = true := by
  unfold zeroW at h
  simp only [Bool.or_eq_true, beq_iff_eq] at h
  rcases h with rfl | rfl
  · decide +kernel
  · decide +kernel

theorem order_zeroneg {x : Nat} (hx0 : 0 < x) (hx : x < 2047 * 2 ^ 52) : (FloatKind.f64.format.order (x + 9223372036854775808) 0 == some .eq) = false := by
  have h := order_neg hx0 hx
  rw [beq_iff_eq] at h
  rw [h]
  rfl
theorem order_zeropos {x : Nat} (hx0 : 0 < x) (hx : x < 2047 * 2 ^ 52) : (FloatKind.f64.format.order x 0 == some .eq) = false := by
  have h : FloatKind.f64.format.order x 0 = some .gt := (Fl.order_pos hx (by decide : 0 < 2047 * 2 ^ 52)).trans (by rw [if_neg (by omega), if_neg (by omega)])
  rw [h]
  rfl
theorem order_ne {r : Nat} {t : List UInt8} (ht : RealTxt r t) (hz : zeroW r = false) : (FloatKind.f64.format.order r 0 == some .eq) = false := by
  rcases ht with ⟨neg, rfl, _⟩ | ⟨neg, n, k, mag, hn0, hn, hk, _, hd, rfl, _⟩
  · cases neg <;> simp [zeroW, signW] at hz
  · obtain ⟨q, hq, hlt, _, hpos⟩ := Fl.div_some (n := n) (k := k) (by omega) (by omega)
    have e : q = mag := by
      have h2 : Ieee.double.div (Fl.ofN n) (Fl.ofN (10 ^ k)) = some q := hq
      rw [hd] at h2
      exact (Option.some.inj h2).symm
    subst e
    cases neg
    · exact order_zeropos (hpos hn0) hlt
    · exact order_zeroneg (hpos hn0) hlt

theorem nullT : valT nullV = [110, 117, 108, 108] := by unfold nullV; rw [valT]; rfl
theorem item_null {v : Val} (h : emptyV v = true) : item 2 v = some nullV := by unfold item; rw [if_neg (by simp), if_pos ⟨rfl, h⟩]
theorem item_else {way : Int} {v : Val} (h : emptyV v = false) : item way v = some (redV way v) := by unfold item; rw [if_neg (by simp [h]), if_neg (by simp [h])]
theorem text_nil {t : ByteArray} (h : (t.size == 0) = true) : t = ⟨#[]⟩ := by
  obtain ⟨⟨l⟩⟩ := t
  have h2 : l.length = 0 := beq_iff_eq.1 h
  rw [List.length_eq_zero_iff.1 h2]
theorem text_cons {t : ByteArray} (h : (t.size == 0) = false) : t.toList.isEmpty = false := by
  rw [Lib.toList_data]
  obtain ⟨⟨l⟩⟩ := t
  have h2 : ¬ l.length = 0 := beq_eq_false_iff_ne.1 h
  cases l with
  | nil => exact absurd rfl h2
  | cons a l => rfl

/-- A list without elements. -/
def bareL : Val → Bool
  | .mk k _ _ _ l _ => k == 6 && l.isEmpty
mutual
/-- Truths are truths; in the second way no object has a list without elements as a member. -/
def Clean (way : Int) : Val → Prop
  | .mk k i _ _ l _ => (k = 2 → i = 0 ∨ i = 1) ∧ (way = 2 → k = 7 → ∀ j (h : j < l.length), bareL l[j] = false) ∧ CleanL way l
def CleanL (way : Int) : List Val → Prop
  | [] => True
  | v :: vs => Clean way v ∧ CleanL way vs
end
theorem CleanL.at {way : Int} : ∀ {l : List Val}, CleanL way l → ∀ j (h : j < l.length), Clean way l[j]
  | [], _, j, h => by simp at h
  | v :: vs, hp, 0, _ => by
    simp only [CleanL] at hp
    simpa using hp.1
  | v :: vs, hp, j + 1, h => by
    simp only [CleanL] at hp
    simpa using CleanL.at hp.2 j (by simpa using h)


set_option maxHeartbeats 4000000 in
set_option maxRecDepth 100000 in
theorem put_all_2 (n : Nat) : ∀ v : Val, vsz v ≤ n → Good v → Clean 2 v → PutC 148 2 v ∧ (bareL v = false → PutK 151 2 v) := by
  induction n with
  | zero => intro v hv _; cases v; simp [vsz] at hv
  | succ n ih =>
    intro v hv hG hCl
    obtain ⟨k, i, r, t, l, ks⟩ := v
    simp only [Good] at hG
    simp only [Clean] at hCl
    obtain ⟨⟨hk1, hk7⟩, ⟨hi0, hi1⟩, hr, hkl, hl6, hk7', hGL⟩ := hG
    obtain ⟨htr, hnb, hCL⟩ := hCl
    simp only [vsz] at hv
    have ihp : ∀ j (h : j < l.length), PutC 148 2 l[j] ∧ (bareL l[j] = false → PutK 151 2 l[j]) := fun j h =>
      ih l[j] (by have := vszL_at j h; omega) (hGL.at j h) (hCL.at j h)
    have hcases : k = 1 ∨ k = 2 ∨ k = 3 ∨ k = 4 ∨ k = 5 ∨ k = 6 ∨ k = 7 := by omega
    have hvl := vszL_len l
    have hvc := vszL_cost l
    refine ⟨?_, ?_⟩
    · intro w0 w b0 N e s b o c x hB hP hE ho hc3 hhk hks hroom
      have hlow := hE.low hB
      have hP' := hP
      simp only [PVal] at hP'
      obtain ⟨hbN, c0, c1, c2, c3, ⟨ao, cc, c4, hl⟩, _⟩ := hP'
      have e0 : ∀ q, w.cell? ⟨b, q, none⟩ = w0.cell? ⟨b, q, none⟩ := fun q => World.cell?_of_block (hlow b hbN)
      have d0 := (e0 o).trans c0
      have d1 := (e0 (o + 1)).trans c1
      have d2 := (e0 (o + 2)).trans c2
      have d3 := (e0 (o + 3)).trans c3
      simp only [cost] at hroom
      rcases hcases with rfl | rfl | rfl | rfl | rfl | rfl | rfl
      · have he : emptyV (.mk 1 i r t l ks) = false := rfl
        rw [item_else he]
        simp only [itemT]
        have ev : valT (redV 2 (.mk 1 i r t l ks)) = [110, 117, 108, 108] := by rw [redV, valT]; rfl
        rw [ev]
        refine null_1 d0 ?_
        by_cases hc : c = 91
        · rw [sep_a hc, List.nil_append]; exact Null_a hB hE (hc ▸ ho) (by unfold lim at *; omega)
        · rw [sep_b hc]; first | exact Null_b hB hE hc ho (by unfold lim at *; omega) | simpa using Null_b hB hE hc ho (by unfold lim at *; omega)
      · rcases htr rfl with rfl | rfl
        · have he : emptyV (.mk 2 0 r t l ks) = true := rfl
          rw [item_null he]
          simp only [itemT]
          rw [nullT]
          refine null_2 d0 d1 ?_
          by_cases hc : c = 91
          · rw [sep_a hc, List.nil_append]; exact BoolNull0_a hB hE (hc ▸ ho) (by unfold lim at *; omega)
          · rw [sep_b hc]; first | exact BoolNull0_b hB hE hc ho (by unfold lim at *; omega) | simpa using BoolNull0_b hB hE hc ho (by unfold lim at *; omega)
        · have he : emptyV (.mk 2 1 r t l ks) = false := rfl
          rw [item_else he]
          simp only [itemT]
          have ev : valT (redV 2 (.mk 2 1 r t l ks)) = boolTxt ((1 : Int) == 1) := by rw [redV, valT]; rfl
          rw [ev]
          refine null_2 d0 d1 ?_
          by_cases hc : c = 91
          · rw [sep_a hc, List.nil_append]; exact BoolNull_a hB hE (hc ▸ ho) (by unfold lim at *; omega)
          · rw [sep_b hc]; first | exact BoolNull_b hB hE hc ho (by unfold lim at *; omega) | simpa using BoolNull_b hB hE hc ho (by unfold lim at *; omega)
      · rcases hz : (i == 0) with _ | _
        · have he : emptyV (.mk 3 i r t l ks) = false := hz
          rw [item_else he]
          simp only [itemT]
          have ev : valT (redV 2 (.mk 3 i r t l ks)) = Lib.itoa i := by rw [redV, valT]; rfl
          rw [ev]
          refine null_3 d0 d1 ?_
          by_cases hc : c = 91
          · rw [sep_a hc, List.nil_append]; exact Int64Null_a hB hE (hc ▸ ho) (by unfold lim at *; omega) hi0 hi1 hz
          · rw [sep_b hc]; first | exact Int64Null_b hB hE hc ho (by unfold lim at *; omega) hi0 hi1 hz | simpa using Int64Null_b hB hE hc ho (by unfold lim at *; omega) hi0 hi1 hz
        · obtain rfl : i = 0 := by simpa using hz
          have he : emptyV (.mk 3 0 r t l ks) = true := rfl
          rw [item_null he]
          simp only [itemT]
          rw [nullT]
          refine null_3 d0 d1 ?_
          by_cases hc : c = 91
          · rw [sep_a hc, List.nil_append]; exact Int64Null0_a hB hE (hc ▸ ho) (by unfold lim at *; omega)
          · rw [sep_b hc]; first | exact Int64Null0_b hB hE hc ho (by unfold lim at *; omega) | simpa using Int64Null0_b hB hE hc ho (by unfold lim at *; omega)
      · rcases hz : zeroW r with _ | _
        · have he : emptyV (.mk 4 i r t l ks) = false := hz
          rw [item_else he]
          simp only [itemT]
          have ev : valT (redV 2 (.mk 4 i r t l ks)) = realT r := by rw [redV, valT]; rfl
          rw [ev]
          have ht := realT_spec (hr rfl)
          refine null_4 d0 d2 ?_
          by_cases hc : c = 91
          · rw [sep_a hc, List.nil_append]; exact Float64Null_a hB hE (hc ▸ ho) (by unfold lim at *; omega) ht (order_ne ht hz)
          · rw [sep_b hc]; first | exact Float64Null_b hB hE hc ho (by unfold lim at *; omega) ht (order_ne ht hz) | simpa using Float64Null_b hB hE hc ho (by unfold lim at *; omega) ht (order_ne ht hz)
        · have he : emptyV (.mk 4 i r t l ks) = true := hz
          rw [item_null he]
          simp only [itemT]
          rw [nullT]
          refine null_4 d0 d2 ?_
          by_cases hc : c = 91
          · rw [sep_a hc, List.nil_append]; exact Float64Null0_a hB hE (hc ▸ ho) (by unfold lim at *; omega) (order_zero hz)
          · rw [sep_b hc]; first | exact Float64Null0_b hB hE hc ho (by unfold lim at *; omega) (order_zero hz) | simpa using Float64Null0_b hB hE hc ho (by unfold lim at *; omega) (order_zero hz)
      · rcases hz : (t.size == 0) with _ | _
        · have he : emptyV (.mk 5 i r t l ks) = false := hz
          rw [item_else he]
          simp only [itemT]
          have ev : valT (redV 2 (.mk 5 i r t l ks)) = [34] ++ esc t.data.toList ++ [34] := by rw [redV, valT]; rfl
          rw [ev]
          refine null_5 d0 d3 ?_
          by_cases hc : c = 91
          · rw [sep_a hc, List.nil_append]; exact StringNull_a (t := t) hB hE (hc ▸ ho) (by unfold lim at *; omega) (text_cons hz)
          · rw [sep_b hc]; first | exact StringNull_b (t := t) hB hE hc ho (by unfold lim at *; omega) (text_cons hz) | simpa using StringNull_b (t := t) hB hE hc ho (by unfold lim at *; omega) (text_cons hz)
        · obtain rfl := text_nil hz
          have he : emptyV (.mk 5 i r ⟨#[]⟩ l ks) = true := rfl
          rw [item_null he]
          simp only [itemT]
          rw [nullT]
          refine null_5 d0 d3 ?_
          by_cases hc : c = 91
          · rw [sep_a hc, List.nil_append]; exact StringNull0_a hB hE (hc ▸ ho) (by unfold lim at *; omega)
          · rw [sep_b hc]; first | exact StringNull0_b hB hE hc ho (by unfold lim at *; omega) | simpa using StringNull0_b hB hE hc ho (by unfold lim at *; omega)
      · rcases List.eq_nil_or_concat l with hl0 | ⟨a, z, hlz⟩
        · subst hl0
          have he : emptyV (.mk 6 i r t [] ks) = true := rfl
          rw [item_null he]
          simp only [itemT]
          rw [nullT]
          refine null_6 d0 ?_
          by_cases hc : c = 91
          · rw [sep_a hc, List.nil_append]; exact ArrayNull0_a hB hE (hc ▸ ho) (by unfold lim at *; omega) hbN c4
          · rw [sep_b hc]; first | exact ArrayNull0_b hB hE hc ho (by unfold lim at *; omega) hbN c4 | simpa using ArrayNull0_b hB hE hc ho (by unfold lim at *; omega) hbN c4
        · have hn : (l.length == 0) = false := by rw [hlz]; simp
          have he : emptyV (.mk 6 i r t l ks) = false := by rw [hlz]; simp [emptyV]
          rw [item_else he]
          simp only [itemT]
          have ev : valT (redV 2 (.mk 6 i r t l ks)) = [91] ++ listT (redL 2 l) true ++ [93] := by rw [redV, valT]; rfl
          rw [ev]
          refine null_6 d0 ?_
          have hW := marA_2 (e := e) hB hP hGL (by unfold lim at *; omega) (fun j h => (ihp j h).1)
          have hTK := hW.1
          by_cases hc : c = 91
          · rw [sep_a hc, List.nil_append]; first | exact ArrayNull_a hB hE (hc ▸ ho) (by unfold lim at *; omega) hhk hks hbN hn c4 hW | simpa using ArrayNull_a hB hE (hc ▸ ho) (by unfold lim at *; omega) hhk hks hbN hn c4 hW
          · rw [sep_b hc]; simpa using ArrayNull_b hB hE hc ho (by unfold lim at *; omega) hhk hks hbN hn c4 hW
      · rcases List.eq_nil_or_concat l with hl0 | ⟨a, z, hlz⟩
        · subst hl0
          have he : emptyV (.mk 7 i r t [] ks) = true := rfl
          rw [item_null he]
          simp only [itemT]
          rw [nullT]
          refine null_7 d0 ?_
          by_cases hc : c = 91
          · rw [sep_a hc, List.nil_append]; exact ObjectNull0_a hB hE (hc ▸ ho) (by unfold lim at *; omega) hbN c4
          · rw [sep_b hc]; first | exact ObjectNull0_b hB hE hc ho (by unfold lim at *; omega) hbN c4 | simpa using ObjectNull0_b hB hE hc ho (by unfold lim at *; omega) hbN c4
        · have hn : (l.length == 0) = false := by rw [hlz]; simp
          have he : emptyV (.mk 7 i r t l ks) = false := by rw [hlz]; simp [emptyV]
          rw [item_else he]
          simp only [itemT]
          have ev : valT (redV 2 (.mk 7 i r t l ks)) = [123] ++ membT (redL 2 l) (redK 2 l ks) true ++ [125] := by rw [redV, valT]; rfl
          rw [ev]
          refine null_7 d0 ?_
          have hW := marO_2 (e := e) hB hP hGL (by unfold lim at *; omega) (hkl rfl) (fun j h => (ihp j h).2 (hnb (by trivial) rfl j h))
          have hTK := hW.1
          by_cases hc : c = 91
          · rw [sep_a hc, List.nil_append]; first | exact ObjectNull_a hB hE (hc ▸ ho) (by unfold lim at *; omega) hhk hks hbN hn c4 hW | simpa using ObjectNull_a hB hE (hc ▸ ho) (by unfold lim at *; omega) hhk hks hbN hn c4 hW
          · rw [sep_b hc]; simpa using ObjectNull_b hB hE hc ho (by unfold lim at *; omega) hhk hks hbN hn c4 hW
    · intro hbare w0 w b0 N e s b o c x key hB hP hE ho hhk hks hroom
      have hlow := hE.low hB
      have hP' := hP
      simp only [PVal] at hP'
      obtain ⟨hbN, c0, c1, c2, c3, ⟨ao, cc, c4, hl⟩, _⟩ := hP'
      have e0 : ∀ q, w.cell? ⟨b, q, none⟩ = w0.cell? ⟨b, q, none⟩ := fun q => World.cell?_of_block (hlow b hbN)
      have d0 := (e0 o).trans c0
      have d1 := (e0 (o + 1)).trans c1
      have d2 := (e0 (o + 2)).trans c2
      have d3 := (e0 (o + 3)).trans c3
      simp only [cost] at hroom
      rcases hcases with rfl | rfl | rfl | rfl | rfl | rfl | rfl
      · have he : emptyV (.mk 1 i r t l ks) = false := rfl
        rw [item_else he]
        simp only [membOf, quoteT]
        have ev : valT (redV 2 (.mk 1 i r t l ks)) = [110, 117, 108, 108] := by rw [redV, valT]; rfl
        rw [ev]
        refine nullKey_1 d0 ?_
        by_cases hc : c = 123
        · rw [sep_a hc]; simpa using NullKey_a (key := key) hB hE (hc ▸ ho) hhk (by unfold lim at *; omega)
        · rw [sep_b hc]; simpa using NullKey_b (key := key) hB hE hc ho hhk (by unfold lim at *; omega)
      · rcases htr rfl with rfl | rfl
        · have he : emptyV (.mk 2 0 r t l ks) = true := rfl
          rw [item_null he]
          simp only [membOf, quoteT]
          rw [nullT]
          refine nullKey_2 d0 d1 ?_
          by_cases hc : c = 123
          · rw [sep_a hc]; simpa using BoolKeyNull0_a (key := key) hB hE (hc ▸ ho) hhk (by unfold lim at *; omega)
          · rw [sep_b hc]; simpa using BoolKeyNull0_b (key := key) hB hE hc ho hhk (by unfold lim at *; omega)
        · have he : emptyV (.mk 2 1 r t l ks) = false := rfl
          rw [item_else he]
          simp only [membOf, quoteT]
          have ev : valT (redV 2 (.mk 2 1 r t l ks)) = boolTxt ((1 : Int) == 1) := by rw [redV, valT]; rfl
          rw [ev]
          refine nullKey_2 d0 d1 ?_
          by_cases hc : c = 123
          · rw [sep_a hc]; simpa using BoolKeyNull_a (key := key) hB hE (hc ▸ ho) hhk (by unfold lim at *; omega)
          · rw [sep_b hc]; simpa using BoolKeyNull_b (key := key) hB hE hc ho hhk (by unfold lim at *; omega)
      · rcases hz : (i == 0) with _ | _
        · have he : emptyV (.mk 3 i r t l ks) = false := hz
          rw [item_else he]
          simp only [membOf, quoteT]
          have ev : valT (redV 2 (.mk 3 i r t l ks)) = Lib.itoa i := by rw [redV, valT]; rfl
          rw [ev]
          refine nullKey_3 d0 d1 ?_
          by_cases hc : c = 123
          · rw [sep_a hc]; simpa using Int64KeyNull_a (key := key) hB hE (hc ▸ ho) hhk (by unfold lim at *; omega) hi0 hi1 hz
          · rw [sep_b hc]; simpa using Int64KeyNull_b (key := key) hB hE hc ho hhk (by unfold lim at *; omega) hi0 hi1 hz
        · obtain rfl : i = 0 := by simpa using hz
          have he : emptyV (.mk 3 0 r t l ks) = true := rfl
          rw [item_null he]
          simp only [membOf, quoteT]
          rw [nullT]
          refine nullKey_3 d0 d1 ?_
          by_cases hc : c = 123
          · rw [sep_a hc]; simpa using Int64KeyNull0_a (key := key) hB hE (hc ▸ ho) hhk (by unfold lim at *; omega)
          · rw [sep_b hc]; simpa using Int64KeyNull0_b (key := key) hB hE hc ho hhk (by unfold lim at *; omega)
      · rcases hz : zeroW r with _ | _
        · have he : emptyV (.mk 4 i r t l ks) = false := hz
          rw [item_else he]
          simp only [membOf, quoteT]
          have ev : valT (redV 2 (.mk 4 i r t l ks)) = realT r := by rw [redV, valT]; rfl
          rw [ev]
          have ht := realT_spec (hr rfl)
          refine nullKey_4 d0 d2 ?_
          by_cases hc : c = 123
          · rw [sep_a hc]; simpa using Float64KeyNull_a (key := key) hB hE (hc ▸ ho) hhk (by unfold lim at *; omega) ht (order_ne ht hz)
          · rw [sep_b hc]; simpa using Float64KeyNull_b (key := key) hB hE hc ho hhk (by unfold lim at *; omega) ht (order_ne ht hz)
        · have he : emptyV (.mk 4 i r t l ks) = true := hz
          rw [item_null he]
          simp only [membOf, quoteT]
          rw [nullT]
          refine nullKey_4 d0 d2 ?_
          by_cases hc : c = 123
          · rw [sep_a hc]; simpa using Float64KeyNull0_a (key := key) hB hE (hc ▸ ho) hhk (by unfold lim at *; omega) (order_zero hz)
          · rw [sep_b hc]; simpa using Float64KeyNull0_b (key := key) hB hE hc ho hhk (by unfold lim at *; omega) (order_zero hz)
      · rcases hz : (t.size == 0) with _ | _
        · have he : emptyV (.mk 5 i r t l ks) = false := hz
          rw [item_else he]
          simp only [membOf, quoteT]
          have ev : valT (redV 2 (.mk 5 i r t l ks)) = [34] ++ esc t.data.toList ++ [34] := by rw [redV, valT]; rfl
          rw [ev]
          refine nullKey_5 d0 d3 ?_
          by_cases hc : c = 123
          · rw [sep_a hc]; simpa using StringKeyNull_a (key := key) (t := t) hB hE (hc ▸ ho) hhk (by unfold lim at *; omega) (text_cons hz)
          · rw [sep_b hc]; simpa using StringKeyNull_b (key := key) (t := t) hB hE hc ho hhk (by unfold lim at *; omega) (text_cons hz)
        · obtain rfl := text_nil hz
          have he : emptyV (.mk 5 i r ⟨#[]⟩ l ks) = true := rfl
          rw [item_null he]
          simp only [membOf, quoteT]
          rw [nullT]
          refine nullKey_5 d0 d3 ?_
          by_cases hc : c = 123
          · rw [sep_a hc]; simpa using StringKeyNull0_a (key := key) hB hE (hc ▸ ho) hhk (by unfold lim at *; omega)
          · rw [sep_b hc]; simpa using StringKeyNull0_b (key := key) hB hE hc ho hhk (by unfold lim at *; omega)
      · rcases List.eq_nil_or_concat l with hl0 | ⟨a, z, hlz⟩
        · subst hl0
          exact absurd hbare (by simp [bareL])
        · have hn : (l.length == 0) = false := by rw [hlz]; simp
          have he : emptyV (.mk 6 i r t l ks) = false := by rw [hlz]; simp [emptyV]
          rw [item_else he]
          simp only [membOf, quoteT]
          have ev : valT (redV 2 (.mk 6 i r t l ks)) = [91] ++ listT (redL 2 l) true ++ [93] := by rw [redV, valT]; rfl
          rw [ev]
          refine nullKey_6 d0 ?_
          have hW := marA_2 (e := e) hB hP hGL (by unfold lim at *; omega) (fun j h => (ihp j h).1)
          have hTK := hW.1
          by_cases hc : c = 123
          · rw [sep_a hc]; simpa using ArrayKeyNull_a (key := key) hB hE (hc ▸ ho) hhk (by unfold lim at *; omega) hks hbN hn c4 hW
          · rw [sep_b hc]; simpa using ArrayKeyNull_b (key := key) hB hE hc ho hhk (by unfold lim at *; omega) hks hbN hn c4 hW
      · rcases List.eq_nil_or_concat l with hl0 | ⟨a, z, hlz⟩
        · subst hl0
          have he : emptyV (.mk 7 i r t [] ks) = true := rfl
          rw [item_null he]
          simp only [membOf, quoteT]
          rw [nullT]
          refine nullKey_7 d0 ?_
          by_cases hc : c = 123
          · rw [sep_a hc]; simpa using ObjectKeyNull0_a (key := key) hB hE (hc ▸ ho) hhk (by unfold lim at *; omega) hbN c4
          · rw [sep_b hc]; simpa using ObjectKeyNull0_b (key := key) hB hE hc ho hhk (by unfold lim at *; omega) hbN c4
        · have hn : (l.length == 0) = false := by rw [hlz]; simp
          have he : emptyV (.mk 7 i r t l ks) = false := by rw [hlz]; simp [emptyV]
          rw [item_else he]
          simp only [membOf, quoteT]
          have ev : valT (redV 2 (.mk 7 i r t l ks)) = [123] ++ membT (redL 2 l) (redK 2 l ks) true ++ [125] := by rw [redV, valT]; rfl
          rw [ev]
          refine nullKey_7 d0 ?_
          have hW := marO_2 (e := e) hB hP hGL (by unfold lim at *; omega) (hkl rfl) (fun j h => (ihp j h).2 (hnb (by trivial) rfl j h))
          have hTK := hW.1
          by_cases hc : c = 123
          · rw [sep_a hc]; simpa using ObjectKeyNull_a (key := key) hB hE (hc ▸ ho) hhk (by unfold lim at *; omega) hks hbN hn c4 hW
          · rw [sep_b hc]; simpa using ObjectKeyNull_b (key := key) hB hE hc ho hhk (by unfold lim at *; omega) hks hbN hn c4 hW


theorem marA_ok2 {w0 : World} {b0 : Option Nat} {N e b o : Nat} {k i : Int} {r : Nat} {t : ByteArray} {l : List Val} {ks : List ByteArray} (hB : Base w0 b0 N) (hP : PVal N w0 (.mk k i r t l ks) b o) (hG : GoodL l) (hC : CleanL 2 l) (hc : costL l ≤ lim) :
    Writes 145 (treeV b o 2) w0 b0 N e 91 (listT (redL 2 l) true) (costL l) :=
  marA_2 hB hP hG (by have := vszL_len l; have := vszL_cost l; omega) (fun j h => (put_all_2 (vsz l[j]) l[j] (Nat.le_refl _) (hG.at j h) (hC.at j h)).1)
theorem marO_ok2 {w0 : World} {b0 : Option Nat} {N e b o : Nat} {k i : Int} {r : Nat} {t : ByteArray} {l : List Val} {ks : List ByteArray} (hB : Base w0 b0 N) (hP : PVal N w0 (.mk k i r t l ks) b o) (hG : GoodL l) (hC : CleanL 2 l) (hc : costL l ≤ lim) (hkl : ks.length = l.length) (hnb : ∀ j (h : j < l.length), bareL l[j] = false) :
    Writes 146 (treeV b o 2) w0 b0 N e 123 (membT (redL 2 l) (redK 2 l ks) true) (costL l + costK ks) :=
  marO_2 hB hP hG (by have := vszL_len l; have := vszL_cost l; omega) hkl (fun j h => (put_all_2 (vsz l[j]) l[j] (Nat.le_refl _) (hG.at j h) (hC.at j h)).2 (hnb j h))
end Go.Proofs.YtokmkkkanphihaaGreatRDoor
