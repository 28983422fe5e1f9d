/- Which words are numbers; spec.IsShort at every number. -/
import Derived.Test.YtokmkkkanphihaaGreatRDoorGuard
namespace Go.Proofs.YtokmkkkanphihaaGreatRDoor
open Go.RowKit Go.Sort

theorem order_self (s : Bool) (m : Nat) (p : Int) : (Ieee.Datum.number s m p).order (.number s m p) = some .eq := by
  show some (compare (Ieee.signed s m (p - min p p).toNat) (Ieee.signed s m (p - min p p).toNat)) = some .eq
  rw [Fl.cmp_int, if_neg (by omega), if_pos rfl]

theorem rr_fin {r x : Nat} (hx : x < 2047 * 2 ^ 52) (hr : r = x ∨ r = x + 2 ^ 63) : (Ieee.double.order r r != some .eq) = false ∧ Ieee.double.sub r r = some 0 := by
  have h0 : Ieee.double.write (.number false 0 (-1074 + (Fl.vplc x : Int))) = 0 := by
    show Ieee.double.nearest false 0 _ = 0
    unfold Ieee.Format.nearest
    rw [if_pos rfl]
    rfl
  rcases hr with rfl | rfl
  · refine ⟨?_, ?_⟩
    · rw [Fl.order_pos hx hx, if_neg (by omega), if_pos rfl]; rfl
    · unfold Ieee.Format.sub
      rw [Fl.read_pos hx]
      unfold Ieee.Datum.opposite Ieee.Datum.sum
      simp only [Ieee.signed, Bool.not_false, if_true, Bool.false_eq_true, if_false]
      have e : min (-1074 + (Fl.vplc r : Int)) (-1074 + (Fl.vplc r : Int)) = -1074 + (Fl.vplc r : Int) := Int.min_self _
      rw [e]
      generalize (Fl.vmag r <<< (-1074 + (Fl.vplc r : Int) - (-1074 + (Fl.vplc r : Int))).toNat) = z
      have e2 : (z : Int) + -(z : Int) = 0 := by omega
      rw [e2]
      exact congrArg some h0
  · refine ⟨?_, ?_⟩
    · unfold Ieee.Format.order
      rw [Fl.read_neg hx, order_self]
      rfl
    · unfold Ieee.Format.sub
      rw [Fl.read_neg hx]
      unfold Ieee.Datum.opposite Ieee.Datum.sum
      simp only [Ieee.signed, Bool.not_true, if_true, Bool.false_eq_true, if_false]
      have e : min (-1074 + (Fl.vplc x : Int)) (-1074 + (Fl.vplc x : Int)) = -1074 + (Fl.vplc x : Int) := Int.min_self _
      rw [e]
      generalize (Fl.vmag x <<< (-1074 + (Fl.vplc x : Int) - (-1074 + (Fl.vplc x : Int))).toNat) = z
      have e2 : -(z : Int) + (z : Int) = 0 := by omega
      rw [e2]
      exact congrArg some h0

theorem read_big {r : Nat} (hr : r % 2 ^ 63 = 2047 * 2 ^ 52) : Ieee.double.read r = .infinity (r / 2 ^ 63 % 2 == 1) := by
  unfold Ieee.Format.read
  rw [Fl.dsw, Fl.dbin, Fl.dinf, Fl.dlp]
  simp only [hr]
  rw [if_neg (by decide), if_neg (by decide)]
  simp

theorem read_nan {r : Nat} (hr : 2047 * 2 ^ 52 < r % 2 ^ 63) : ∃ s f, Ieee.double.read r = .nan s f := by
  unfold Ieee.Format.read
  rw [Fl.dsw, Fl.dbin, Fl.dinf, Fl.dlp]
  refine ⟨r / 2 ^ 63 % 2 == 1, r % 2 ^ 63 - 2047 * 2 ^ 52, ?_⟩
  simp only []
  rw [if_neg (by omega), if_neg (by omega), if_neg (by omega)]

theorem rr_inf {r : Nat} (hr : r % 2 ^ 63 = 2047 * 2 ^ 52) : (Ieee.double.order r r != some .eq) = false ∧ Ieee.double.sub r r = none := by
  refine ⟨?_, ?_⟩
  · unfold Ieee.Format.order
    rw [read_big hr]
    unfold Ieee.Datum.order
    generalize (r / 2 ^ 63 % 2 == 1) = s
    cases s <;> rfl
  · unfold Ieee.Format.sub
    rw [read_big hr]
    generalize (r / 2 ^ 63 % 2 == 1) = s
    cases s <;> rfl

theorem rr_nan {r : Nat} (hr : 2047 * 2 ^ 52 < r % 2 ^ 63) : (Ieee.double.order r r != some .eq) = true := by
  obtain ⟨s, f, h⟩ := read_nan hr
  unfold Ieee.Format.order
  rw [h]
  rfl

/-- The word that stands for a NaN, as the machine gives it. -/
def nanW (t : Nat) : Nat := (t % 2) * 2 ^ 63 + 0x7ff0000000000000 + 1 + (t / 2) % (2 ^ 52 - 1)

theorem nanW_nan (t : Nat) : (Ieee.double.order (nanW t) 0 != some .eq) = true := by
  have h : 2047 * 2 ^ 52 < nanW t % 2 ^ 63 := by
    unfold nanW
    have h1 : t / 2 % (2 ^ 52 - 1) < 2 ^ 52 - 1 := Nat.mod_lt _ (by decide)
    generalize t / 2 % (2 ^ 52 - 1) = z at *
    rcases Nat.mod_two_eq_zero_or_one t with h2 | h2
    · rw [h2]; omega
    · rw [h2]; omega
  obtain ⟨s, f, h⟩ := read_nan h
  unfold Ieee.Format.order
  rw [h]
  rfl

theorem sub_nan {r : Nat} (h : Ieee.double.sub r r = none) (w : World) : (binOp .sub 22 (.float .f64 r) (.float .f64 r)).run Tryz.prog w = .ok (.float .f64 (nanW (w.tape w.drawn (.nanBits .f64 r r)))) w.drew := by
  have h2 : FloatKind.f64.format.sub r r = none := h
  simp [binOp, Op.floatArith, h2, Question.forced, Question.cut, nanW]

/-- A word is a number: its magnitude, and its sign. -/
theorem word_split {r : Nat} (hr : r < 2 ^ 64) (hf : r % 2 ^ 63 < 2047 * 2 ^ 52) : ∃ x neg, x < 2047 * 2 ^ 52 ∧ r = x + signW neg := by
  rcases Nat.lt_or_ge r (2 ^ 63) with h | h
  · exact ⟨r, false, by omega, by unfold signW; simp⟩
  · refine ⟨r - 2 ^ 63, true, by omega, ?_⟩
    unfold signW
    rw [if_pos rfl]
    omega

theorem zz_facts : ∀ b : Bool, Ieee.double.mul (signW b) (Fl.tenW 0) = some (signW b) ∧ (Ieee.double.order (signW b) 4831355200913801216 == some .lt) = true ∧ Ieee.double.add (signW b) 4602678819172646912 = some 4602678819172646912 ∧
    floatToIntVal .f64 4602678819172646912 .u64 = some 0 ∧ Ieee.double.div (Fl.ofN 0) (Fl.tenW 0) = some 0 ∧ (Ieee.double.order 0 (signW b) == some .eq) = true ∧ (Ieee.double.order (signW b) 0 == some .lt) = false := by decide +kernel

set_option maxHeartbeats 3200000 in
set_option maxRecDepth 100000 in
theorem IsShort_z (b : Bool) (w : World) : Calls Tryz.prog 27 #[.float .f64 (signW b)] w fun e w' => ∃ c, e = .returned (.bool c) ∧ w = w' := by
  obtain ⟨h1, h2, h3, h4, h5, h6, h7⟩ := zz_facts b
  have hmul : ∀ w, (binOp .mul 22 (.float .f64 (signW b)) (.float .f64 (Fl.tenW 0))).run Tryz.prog w = .ok (.float .f64 (signW b)) w := fun w => run_float_arith w .mul _ .f64 _ _ _ h1
  have haddr : ∀ w, (binOp .add 22 (.float .f64 (signW b)) (.float .f64 4602678819172646912)).run Tryz.prog w = .ok (.float .f64 4602678819172646912) w := fun w => run_float_arith w .add _ .f64 _ _ _ h3
  have hconv : ∀ w, (convert 22 92 (.float .f64 4602678819172646912)).run Tryz.prog w = .ok (.int .u64 0) w := fun w => run_convert_float_int w 22 92 .f64 .u64 _ 0 (by rw [Tryz.underlying22]; rfl) Tryz.underlying92 h4
  have hquo : ∀ w, (binOp .quo 22 (.float .f64 (floatOfInt .f64 0)) (.float .f64 (Fl.tenW 0))).run Tryz.prog w = .ok (.float .f64 0) w := fun w => run_float_arith w .quo _ .f64 _ _ _ (by rw [show floatOfInt .f64 0 = Fl.ofN 0 from ofInt_ofN 0]; exact h5)
  have g2 : (FloatKind.f64.format.order (signW b) 4831355200913801216 == some .lt) = true := h2
  have g6 : (FloatKind.f64.format.order 0 (signW b) == some .eq) = true := h6
  have g7 : (FloatKind.f64.format.order (signW b) 0 == some .lt) = false := h7
  clear h1 h2 h3 h4 h5 h6 h7
  generalize signW b = z at *
  go_enter Tryz.func27, Tryz.ntmps27
  go_wp2_with fail
  go_loop [10] (fun i => i = .int .i64 0) (fun _ => 0)
  case atStart => rfl
  case round =>
    obtain rfl := hrel
    go_wp2_with (go_at_call 48; refine (ten_any 0 (by omega) _).mono ?_; rintro e w' ⟨rfl, rfl⟩)
    go_ret
    exact ⟨true, rfl, rfl⟩

/-- IsShort at every number. -/
theorem IsShort_any {r : Nat} (hr : r < 2 ^ 64) (hf : r % 2 ^ 63 < 2047 * 2 ^ 52) (w : World) : Calls Tryz.prog 27 #[.float .f64 r] w fun e w' => ∃ b, e = .returned (.bool b) ∧ (b = true → ∃ t, RealTxt r t) ∧ w = w' := by
  obtain ⟨x, neg, hx, rfl⟩ := word_split hr hf
  rcases Nat.eq_zero_or_pos x with h0 | h0
  · subst h0
    rw [Nat.zero_add]
    refine (IsShort_z neg w).mono ?_
    rintro e w' ⟨c, he, hw⟩
    exact ⟨c, he, fun _ => ⟨_, .inl ⟨neg, rfl, rfl⟩⟩, hw⟩
  · have hS : Calls Tryz.prog 27 #[.float .f64 (x + signW neg)] w (ShortOr x w) := by
      cases neg
      · exact IsShort_pos h0 hx w
      · exact IsShort_neg rfl h0 hx w
    refine hS.mono ?_
    rintro e w' ⟨b, he, hb, hw⟩
    refine ⟨b, he, fun h => ?_, hw⟩
    obtain ⟨m, j, m0, m1, j9, hj, hd⟩ := hb h
    exact ⟨_, .inr ⟨neg, m, j, x, m0, m1, j9, hj, hd, rfl, rfl⟩⟩
end Go.Proofs.YtokmkkkanphihaaGreatRDoor
