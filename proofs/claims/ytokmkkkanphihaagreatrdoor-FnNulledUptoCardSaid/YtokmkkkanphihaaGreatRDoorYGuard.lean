/- spec.ten, spec.IsShort: what they compute. -/
import Derived.Test.YtokmkkkanphihaaGreatRDoorShort
import Derived.Test.YtokmkkkanphihaaGreatRDoorMar2
namespace Go.Proofs.YtokmkkkanphihaaGreatRDoor
open Go.RowKit Go.Sort

set_option maxHeartbeats 1600000 in
set_option maxRecDepth 100000 in
theorem ten_any (k : Nat) (hk : k ≤ 15) (w : World) : Calls Tryz.prog 48 #[.int .i64 k] w fun e w' => e = .returned (.float .f64 (Fl.tenW k)) ∧ w = w' := by
  have h0 := Lib.hid Fl.ten_zero
  go_enter Tryz.func48, Tryz.ntmps48
  go_wp2_with fail
  go_loop [3, 5] (fun x i => ∃ j : Nat, j ≤ k ∧ i = .int .i64 j ∧ x = .float .f64 (Fl.tenW j)) (fun _ i => k - (intOf i).toNat)
  case atStart => exact ⟨0, Nat.zero_le _, rfl, by rw [h0.out]⟩
  case round =>
    obtain ⟨j, hj, rfl, rfl⟩ := hrel
    by_cases hlt : j < k
    · have hm : ∀ w, (binOp .mul 22 (.float .f64 (Fl.tenW j)) (.float .f64 4621819117588971520)).run Tryz.prog w = .ok (.float .f64 (Fl.tenW (j + 1))) w := fun w => run_float_arith w .mul _ .f64 _ _ _ (Fl.ten_mul j (by omega))
      go_wp2_with fail
      go_round
      case rel => exact ⟨j + 1, by omega, by go_num, rfl⟩
      case measure => simp [intOf]; omega
    · have : j = k := by omega
      subst this
      go_wp2_with fail
      go_ret
      exact ⟨rfl, rfl⟩

/-- What IsShort says: if it says yes, x is a number of few digits. -/
def ShortOr (x : Nat) (w : World) (e : Ending) (w' : World) : Prop :=
  ∃ b, e = .returned (.bool b) ∧ (b = true → ∃ m j, 0 < m ∧ m < 10 ^ 15 ∧ j ≤ 9 ∧ (j = 0 ∨ m % 10 ≠ 0) ∧ Ieee.double.div (Fl.ofN m) (Fl.ofN (10 ^ j)) = some x) ∧ w = w'

theorem ofInt_ofN (n : Nat) : floatOfInt .f64 (n : Int) = Fl.ofN n := by
  unfold floatOfInt FloatKind.nearest FloatKind.encode Fl.ofN
  have h : decide ((n : Int) < 0) = false := by simp
  rw [h]
  rfl

theorem negF {x : Nat} (hx : x < 9223372036854775808) (w : World) : (Op.unary .neg (.float .f64 (x + 9223372036854775808))).run Tryz.prog w = .ok (.float .f64 x) w := by
  have h : Op.negFloat .f64 (x + 9223372036854775808) = x := by
    unfold Op.negFloat
    have e : 2 ^ (FloatKind.f64.format.exponentBits + FloatKind.f64.format.fractionBits) = 2 ^ 63 := by decide
    rw [e]
    have e2 : x + 9223372036854775808 = 2 ^ 63 * 1 + x := by
      have : (2 : Nat) ^ 63 = 9223372036854775808 := by decide
      omega
    rw [e2, Nat.two_pow_add_eq_or_of_lt (by have : (2 : Nat) ^ 63 = 9223372036854775808 := by decide
                                            omega)]
    apply Nat.eq_of_testBit_eq
    intro i
    simp only [Nat.testBit_xor, Nat.testBit_or, Nat.mul_one, Nat.testBit_two_pow]
    by_cases hi : 63 = i
    · subst hi
      have : x.testBit 63 = false := Nat.testBit_lt_two_pow (by have : (2 : Nat) ^ 63 = 9223372036854775808 := by decide
                                                                omega)
      simp [this]
    · simp [hi]
  have h2 : (Op.unary .neg (.float .f64 (x + 9223372036854775808))).run Tryz.prog w = .ok (.float .f64 (Op.negFloat .f64 (x + 9223372036854775808))) w := rfl
  rw [h] at h2
  exact h2

set_option maxHeartbeats 3200000 in
set_option maxRecDepth 100000 in
theorem IsShort_pos {x : Nat} (hx0 : 0 < x) (hx : x < 2047 * 2 ^ 52) (w : World) : Calls Tryz.prog 27 #[.float .f64 x] w (ShortOr x w) := by
  have hxH := Lib.hid hx
  have hx0H := Lib.hid hx0
  have hpos : (FloatKind.f64.format.order x 0 == some .lt) = false := by
    have h1 : FloatKind.f64.format.order x 0 = _ := Fl.order_pos hx (by decide : 0 < 2047 * 2 ^ 52)
    rw [h1, if_neg (by omega), if_neg (by omega)]
    rfl
  clear hx hx0
  go_enter Tryz.func27, Tryz.ntmps27
  go_wp2_with fail
  go_loop [10] (fun i => ∃ j : Nat, j ≤ 10 ∧ i = .int .i64 j) (fun i => 10 - (intOf i).toNat)
  case atStart => exact ⟨0, Nat.zero_le _, rfl⟩
  case round =>
    obtain ⟨j, hj, rfl⟩ := hrel
    by_cases hlt : j < 10
    · obtain ⟨y, hy, hyi⟩ := Fl.mul_some (k := j) hxH.out (by omega)
      have hmul : ∀ w, (binOp .mul 22 (.float .f64 x) (.float .f64 (Fl.tenW j))).run Tryz.prog w = .ok (.float .f64 y) w := fun w => run_float_arith w .mul _ .f64 _ _ _ hy
      have hyH := Lib.hid hy
      have hyiH := Lib.hid hyi
      clear hy hyi
      by_cases hl : (FloatKind.f64.format.order y 4831355200913801216 == some .lt) = true
      · obtain ⟨y2, n, hadd, hcv, hn⟩ := Fl.half_up (Fl.below15 hyiH.out hl)
        have haddr : ∀ w, (binOp .add 22 (.float .f64 y) (.float .f64 4602678819172646912)).run Tryz.prog w = .ok (.float .f64 y2) w := fun w => run_float_arith w .add _ .f64 _ _ _ hadd
        have hconv : ∀ w, (convert 22 92 (.float .f64 y2)).run Tryz.prog w = .ok (.int .u64 n) w := fun w => run_convert_float_int w 22 92 .f64 .u64 y2 n (by rw [Tryz.underlying22]; rfl) Tryz.underlying92 hcv
        obtain ⟨q, hq, hqi, _, _⟩ := Fl.div_some hn (by omega : j ≤ 15)
        have hquo : ∀ w, (binOp .quo 22 (.float .f64 (floatOfInt .f64 (n : Int))) (.float .f64 (Fl.tenW j))).run Tryz.prog w = .ok (.float .f64 q) w := fun w => run_float_arith w .quo _ .f64 _ _ _ (by rw [ofInt_ofN]; exact hq)
        have hqH := Lib.hid hq
        have hnH := Lib.hid hn
        have hqiH := Lib.hid hqi
        have hlH := Lib.hid hl
        clear hadd hcv hq hn hqi
        by_cases he : (FloatKind.f64.format.order q x == some .eq) = true
        · have hfin := Lib.hid (Fl.short_found hx0H.out hxH.out (by omega : j ≤ 9) hyH.out hlH.out hnH.out hqH.out he)
          go_wp2_with (go_at_call 48; refine (ten_any j (by omega) _).mono ?_; rintro e w' ⟨rfl, rfl⟩)
          go_ret
          exact ⟨true, rfl, fun _ => hfin.out, rfl⟩
        · have he' : (FloatKind.f64.format.order q x == some .eq) = false := by simpa using he
          clear he
          go_wp2_with (go_at_call 48; refine (ten_any j (by omega) _).mono ?_; rintro e w' ⟨rfl, rfl⟩)
          go_round
          case rel => exact ⟨j + 1, by omega, by go_num⟩
          case measure => simp [intOf]; omega
      · have hl' : (FloatKind.f64.format.order y 4831355200913801216 == some .lt) = false := by simpa using hl
        clear hl
        go_wp2_with (go_at_call 48; refine (ten_any j (by omega) _).mono ?_; rintro e w' ⟨rfl, rfl⟩)
        go_round
        case rel => exact ⟨j + 1, by omega, by go_num⟩
        case measure => simp [intOf]; omega
    · have : j = 10 := by omega
      subst this
      go_wp2_with fail
      go_ret
      exact ⟨false, rfl, (fun h => by cases h), rfl⟩

theorem order_neg {x : Nat} (hx0 : 0 < x) (hx : x < 2047 * 2 ^ 52) : (FloatKind.f64.format.order (x + 9223372036854775808) 0 == some .lt) = true := by
  have h1 : FloatKind.f64.format.order (x + 9223372036854775808) 0 = (Ieee.double.read (x + 2 ^ 63)).order (Ieee.double.read 0) := rfl
  rw [h1, Fl.read_neg hx, Fl.read_pos (by decide : 0 < 2047 * 2 ^ 52)]
  unfold Ieee.Datum.order
  simp only [Ieee.signed, if_true]
  rw [Fl.cmp_int]
  have hv : 0 < Fl.vv x := Nat.lt_of_le_of_lt (Nat.zero_le _) (Fl.vv_lt hx0)
  have hm : 0 < Fl.vmag x := by
    unfold Fl.vv at hv
    exact Nat.pos_of_mul_pos_right hv
  have h0 : Fl.vmag 0 = 0 := rfl
  rw [h0]
  have hs : 0 < Fl.vmag x <<< (-1074 + (Fl.vplc x : Int) - min (-1074 + (Fl.vplc x : Int)) (-1074 + (Fl.vplc 0 : Int))).toNat := by
    rw [Nat.shiftLeft_eq]
    exact Nat.mul_pos hm (Nat.two_pow_pos _)
  generalize Fl.vmag x <<< (-1074 + (Fl.vplc x : Int) - min (-1074 + (Fl.vplc x : Int)) (-1074 + (Fl.vplc 0 : Int))).toNat = z at *
  simp only [Nat.zero_shiftLeft, Bool.false_eq_true, if_false]
  rw [if_pos (by omega)]
  rfl

set_option maxHeartbeats 3200000 in
set_option maxRecDepth 100000 in
theorem IsShort_neg {r x : Nat} (hr : r = x + 9223372036854775808) (hx0 : 0 < x) (hx : x < 2047 * 2 ^ 52) (w : World) : Calls Tryz.prog 27 #[.float .f64 r] w (ShortOr x w) := by
  have hxH := Lib.hid hx
  have hx0H := Lib.hid hx0
  have hneg : (FloatKind.f64.format.order r 0 == some .lt) = true := by rw [hr]; exact order_neg hx0 hx
  have hng : ∀ w, (Op.unary .neg (.float .f64 r)).run Tryz.prog w = .ok (.float .f64 x) w := fun w => by rw [hr]; exact negF (by omega) w
  clear hx hx0 hr
  go_enter Tryz.func27, Tryz.ntmps27
  go_wp2_with fail
  go_loop [10] (fun i => ∃ j : Nat, j ≤ 10 ∧ i = .int .i64 j) (fun i => 10 - (intOf i).toNat)
  case atStart => exact ⟨0, Nat.zero_le _, rfl⟩
  case round =>
    obtain ⟨j, hj, rfl⟩ := hrel
    by_cases hlt : j < 10
    · obtain ⟨y, hy, hyi⟩ := Fl.mul_some (k := j) hxH.out (by omega)
      have hmul : ∀ w, (binOp .mul 22 (.float .f64 x) (.float .f64 (Fl.tenW j))).run Tryz.prog w = .ok (.float .f64 y) w := fun w => run_float_arith w .mul _ .f64 _ _ _ hy
      have hyH := Lib.hid hy
      have hyiH := Lib.hid hyi
      clear hy hyi
      by_cases hl : (FloatKind.f64.format.order y 4831355200913801216 == some .lt) = true
      · obtain ⟨y2, n, hadd, hcv, hn⟩ := Fl.half_up (Fl.below15 hyiH.out hl)
        have haddr : ∀ w, (binOp .add 22 (.float .f64 y) (.float .f64 4602678819172646912)).run Tryz.prog w = .ok (.float .f64 y2) w := fun w => run_float_arith w .add _ .f64 _ _ _ hadd
        have hconv : ∀ w, (convert 22 92 (.float .f64 y2)).run Tryz.prog w = .ok (.int .u64 n) w := fun w => run_convert_float_int w 22 92 .f64 .u64 y2 n (by rw [Tryz.underlying22]; rfl) Tryz.underlying92 hcv
        obtain ⟨q, hq, hqi, _, _⟩ := Fl.div_some hn (by omega : j ≤ 15)
        have hquo : ∀ w, (binOp .quo 22 (.float .f64 (floatOfInt .f64 (n : Int))) (.float .f64 (Fl.tenW j))).run Tryz.prog w = .ok (.float .f64 q) w := fun w => run_float_arith w .quo _ .f64 _ _ _ (by rw [ofInt_ofN]; exact hq)
        have hqH := Lib.hid hq
        have hnH := Lib.hid hn
        have hqiH := Lib.hid hqi
        have hlH := Lib.hid hl
        clear hadd hcv hq hn hqi
        by_cases he : (FloatKind.f64.format.order q x == some .eq) = true
        · have hfin := Lib.hid (Fl.short_found hx0H.out hxH.out (by omega : j ≤ 9) hyH.out hlH.out hnH.out hqH.out he)
          go_wp2_with (go_at_call 48; refine (ten_any j (by omega) _).mono ?_; rintro e w' ⟨rfl, rfl⟩)
          go_ret
          exact ⟨true, rfl, fun _ => hfin.out, rfl⟩
        · have he' : (FloatKind.f64.format.order q x == some .eq) = false := by simpa using he
          clear he
          go_wp2_with (go_at_call 48; refine (ten_any j (by omega) _).mono ?_; rintro e w' ⟨rfl, rfl⟩)
          go_round
          case rel => exact ⟨j + 1, by omega, by go_num⟩
          case measure => simp [intOf]; omega
      · have hl' : (FloatKind.f64.format.order y 4831355200913801216 == some .lt) = false := by simpa using hl
        clear hl
        go_wp2_with (go_at_call 48; refine (ten_any j (by omega) _).mono ?_; rintro e w' ⟨rfl, rfl⟩)
        go_round
        case rel => exact ⟨j + 1, by omega, by go_num⟩
        case measure => simp [intOf]; omega
    · have : j = 10 := by omega
      subst this
      go_wp2_with fail
      go_ret
      exact ⟨false, rfl, (fun h => by cases h), rfl⟩
end Go.Proofs.YtokmkkkanphihaaGreatRDoor

/- Which words are numbers; spec.IsShort at every number. -/
namespace Go.Proofs.YtokmkkkanphihaaGreatRDoor
open Go.RowKit Go.Sort

theorem order_self (s : Bool) (m : Nat) (p : Int) : (Ieee.Datum.number s m p).order (.number s m p) = some .eq := by
  show some (compare (Ieee.signed s m (p - min p p).toNat) (Ieee.signed s m (p - min p p).toNat)) = some .eq
  rw [Fl.cmp_int, if_neg (by omega), if_pos rfl]

theorem rr_fin {r x : Nat} (hx : x < 2047 * 2 ^ 52) (hr : r = x ∨ r = x + 2 ^ 63) : (Ieee.double.order r r != some .eq) = false ∧ Ieee.double.sub r r = some 0 := by
  have h0 : Ieee.double.write (.number false 0 (-1074 + (Fl.vplc x : Int))) = 0 := by
    show Ieee.double.nearest false 0 _ = 0
    unfold Ieee.Format.nearest
    rw [if_pos rfl]
    rfl
  rcases hr with rfl | rfl
  · refine ⟨?_, ?_⟩
    · rw [Fl.order_pos hx hx, if_neg (by omega), if_pos rfl]; rfl
    · unfold Ieee.Format.sub
      rw [Fl.read_pos hx]
      unfold Ieee.Datum.opposite Ieee.Datum.sum
      simp only [Ieee.signed, Bool.not_false, if_true, Bool.false_eq_true, if_false]
      have e : min (-1074 + (Fl.vplc r : Int)) (-1074 + (Fl.vplc r : Int)) = -1074 + (Fl.vplc r : Int) := Int.min_self _
      rw [e]
      generalize (Fl.vmag r <<< (-1074 + (Fl.vplc r : Int) - (-1074 + (Fl.vplc r : Int))).toNat) = z
      have e2 : (z : Int) + -(z : Int) = 0 := by omega
      rw [e2]
      exact congrArg some h0
  · refine ⟨?_, ?_⟩
    · unfold Ieee.Format.order
      rw [Fl.read_neg hx, order_self]
      rfl
    · unfold Ieee.Format.sub
      rw [Fl.read_neg hx]
      unfold Ieee.Datum.opposite Ieee.Datum.sum
      simp only [Ieee.signed, Bool.not_true, if_true, Bool.false_eq_true, if_false]
      have e : min (-1074 + (Fl.vplc x : Int)) (-1074 + (Fl.vplc x : Int)) = -1074 + (Fl.vplc x : Int) := Int.min_self _
      rw [e]
      generalize (Fl.vmag x <<< (-1074 + (Fl.vplc x : Int) - (-1074 + (Fl.vplc x : Int))).toNat) = z
      have e2 : -(z : Int) + (z : Int) = 0 := by omega
      rw [e2]
      exact congrArg some h0

theorem read_big {r : Nat} (hr : r % 2 ^ 63 = 2047 * 2 ^ 52) : Ieee.double.read r = .infinity (r / 2 ^ 63 % 2 == 1) := by
  unfold Ieee.Format.read
  rw [Fl.dsw, Fl.dbin, Fl.dinf, Fl.dlp]
  simp only [hr]
  rw [if_neg (by decide), if_neg (by decide)]
  simp

theorem read_nan {r : Nat} (hr : 2047 * 2 ^ 52 < r % 2 ^ 63) : ∃ s f, Ieee.double.read r = .nan s f := by
  unfold Ieee.Format.read
  rw [Fl.dsw, Fl.dbin, Fl.dinf, Fl.dlp]
  refine ⟨r / 2 ^ 63 % 2 == 1, r % 2 ^ 63 - 2047 * 2 ^ 52, ?_⟩
  simp only []
  rw [if_neg (by omega), if_neg (by omega), if_neg (by omega)]

theorem rr_inf {r : Nat} (hr : r % 2 ^ 63 = 2047 * 2 ^ 52) : (Ieee.double.order r r != some .eq) = false ∧ Ieee.double.sub r r = none := by
  refine ⟨?_, ?_⟩
  · unfold Ieee.Format.order
    rw [read_big hr]
    unfold Ieee.Datum.order
    generalize (r / 2 ^ 63 % 2 == 1) = s
    cases s <;> rfl
  · unfold Ieee.Format.sub
    rw [read_big hr]
    generalize (r / 2 ^ 63 % 2 == 1) = s
    cases s <;> rfl

theorem rr_nan {r : Nat} (hr : 2047 * 2 ^ 52 < r % 2 ^ 63) : (Ieee.double.order r r != some .eq) = true := by
  obtain ⟨s, f, h⟩ := read_nan hr
  unfold Ieee.Format.order
  rw [h]
  rfl

/-- The word that stands for a NaN, as the machine gives it. -/
def nanW (t : Nat) : Nat := (t % 2) * 2 ^ 63 + 0x7ff0000000000000 + 1 + (t / 2) % (2 ^ 52 - 1)

theorem nanW_nan (t : Nat) : (Ieee.double.order (nanW t) 0 != some .eq) = true := by
  have h : 2047 * 2 ^ 52 < nanW t % 2 ^ 63 := by
    unfold nanW
    have h1 : t / 2 % (2 ^ 52 - 1) < 2 ^ 52 - 1 := Nat.mod_lt _ (by decide)
    generalize t / 2 % (2 ^ 52 - 1) = z at *
    rcases Nat.mod_two_eq_zero_or_one t with h2 | h2
    · rw [h2]; omega
    · rw [h2]; omega
  obtain ⟨s, f, h⟩ := read_nan h
  unfold Ieee.Format.order
  rw [h]
  rfl

theorem sub_nan {r : Nat} (h : Ieee.double.sub r r = none) (w : World) : (binOp .sub 22 (.float .f64 r) (.float .f64 r)).run Tryz.prog w = .ok (.float .f64 (nanW (w.tape w.drawn (.nanBits .f64 r r)))) w.drew := by
  have h2 : FloatKind.f64.format.sub r r = none := h
  simp [binOp, Op.floatArith, h2, Question.forced, Question.cut, nanW]

/-- A word is a number: its magnitude, and its sign. -/
theorem word_split {r : Nat} (hr : r < 2 ^ 64) (hf : r % 2 ^ 63 < 2047 * 2 ^ 52) : ∃ x neg, x < 2047 * 2 ^ 52 ∧ r = x + signW neg := by
  rcases Nat.lt_or_ge r (2 ^ 63) with h | h
  · exact ⟨r, false, by omega, by unfold signW; simp⟩
  · refine ⟨r - 2 ^ 63, true, by omega, ?_⟩
    unfold signW
    rw [if_pos rfl]
    omega

theorem zz_facts : ∀ b : Bool, Ieee.double.mul (signW b) (Fl.tenW 0) = some (signW b) ∧ (Ieee.double.order (signW b) 4831355200913801216 == some .lt) = true ∧ Ieee.double.add (signW b) 4602678819172646912 = some 4602678819172646912 ∧
    floatToIntVal .f64 4602678819172646912 .u64 = some 0 ∧ Ieee.double.div (Fl.ofN 0) (Fl.tenW 0) = some 0 ∧ (Ieee.double.order 0 (signW b) == some .eq) = true ∧ (Ieee.double.order (signW b) 0 == some .lt) = false := by decide +kernel

set_option maxHeartbeats 3200000 in
set_option maxRecDepth 100000 in
theorem IsShort_z (b : Bool) (w : World) : Calls Tryz.prog 27 #[.float .f64 (signW b)] w fun e w' => ∃ c, e = .returned (.bool c) ∧ w = w' := by
  obtain ⟨h1, h2, h3, h4, h5, h6, h7⟩ := zz_facts b
  have hmul : ∀ w, (binOp .mul 22 (.float .f64 (signW b)) (.float .f64 (Fl.tenW 0))).run Tryz.prog w = .ok (.float .f64 (signW b)) w := fun w => run_float_arith w .mul _ .f64 _ _ _ h1
  have haddr : ∀ w, (binOp .add 22 (.float .f64 (signW b)) (.float .f64 4602678819172646912)).run Tryz.prog w = .ok (.float .f64 4602678819172646912) w := fun w => run_float_arith w .add _ .f64 _ _ _ h3
  have hconv : ∀ w, (convert 22 92 (.float .f64 4602678819172646912)).run Tryz.prog w = .ok (.int .u64 0) w := fun w => run_convert_float_int w 22 92 .f64 .u64 _ 0 (by rw [Tryz.underlying22]; rfl) Tryz.underlying92 h4
  have hquo : ∀ w, (binOp .quo 22 (.float .f64 (floatOfInt .f64 0)) (.float .f64 (Fl.tenW 0))).run Tryz.prog w = .ok (.float .f64 0) w := fun w => run_float_arith w .quo _ .f64 _ _ _ (by rw [show floatOfInt .f64 0 = Fl.ofN 0 from ofInt_ofN 0]; exact h5)
  have g2 : (FloatKind.f64.format.order (signW b) 4831355200913801216 == some .lt) = true := h2
  have g6 : (FloatKind.f64.format.order 0 (signW b) == some .eq) = true := h6
  have g7 : (FloatKind.f64.format.order (signW b) 0 == some .lt) = false := h7
  clear h1 h2 h3 h4 h5 h6 h7
  generalize signW b = z at *
  go_enter Tryz.func27, Tryz.ntmps27
  go_wp2_with fail
  go_loop [10] (fun i => i = .int .i64 0) (fun _ => 0)
  case atStart => rfl
  case round =>
    obtain rfl := hrel
    go_wp2_with (go_at_call 48; refine (ten_any 0 (by omega) _).mono ?_; rintro e w' ⟨rfl, rfl⟩)
    go_ret
    exact ⟨true, rfl, rfl⟩

/-- IsShort at every number. -/
theorem IsShort_any {r : Nat} (hr : r < 2 ^ 64) (hf : r % 2 ^ 63 < 2047 * 2 ^ 52) (w : World) : Calls Tryz.prog 27 #[.float .f64 r] w fun e w' => ∃ b, e = .returned (.bool b) ∧ (b = true → ∃ t, RealTxt r t) ∧ w = w' := by
  obtain ⟨x, neg, hx, rfl⟩ := word_split hr hf
  rcases Nat.eq_zero_or_pos x with h0 | h0
  · subst h0
    rw [Nat.zero_add]
    refine (IsShort_z neg w).mono ?_
    rintro e w' ⟨c, he, hw⟩
    exact ⟨c, he, fun _ => ⟨_, .inl ⟨neg, rfl, rfl⟩⟩, hw⟩
  · have hS : Calls Tryz.prog 27 #[.float .f64 (x + signW neg)] w (ShortOr x w) := by
      cases neg
      · exact IsShort_pos h0 hx w
      · exact IsShort_neg rfl h0 hx w
    refine hS.mono ?_
    rintro e w' ⟨b, he, hb, hw⟩
    refine ⟨b, he, fun h => ?_, hw⟩
    obtain ⟨m, j, m0, m1, j9, hj, hd⟩ := hb h
    exact ⟨_, .inr ⟨neg, m, j, x, m0, m1, j9, hj, hd, rfl, rfl⟩⟩
end Go.Proofs.YtokmkkkanphihaaGreatRDoor
