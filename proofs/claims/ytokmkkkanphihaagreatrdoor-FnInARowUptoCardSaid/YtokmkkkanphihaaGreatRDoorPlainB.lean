/- spec.IsPlain at every value (written by genIP.py). -/
import Derived.Test.YtokmkkkanphihaaGreatRDoorPlain
namespace Go.Proofs.YtokmkkkanphihaaGreatRDoor
open Go.RowKit Go.Sort

set_option maxHeartbeats 3200000 in
set_option maxRecDepth 100000 in
theorem IsPlainNo_zero {P : Prop} {w : World} {k : Int} {i : Int} {r : Nat} {t : ByteArray} {nl c nk ck : Nat} {ao ako : Option Addr}  :
    Calls Tryz.prog 15 #[.agg #[.int .i64 k, .int .i64 i, .float .f64 r, .string t, .slice ao nl c, .slice ako nk ck], .int .i64 0] w (Says P w) := by
  go_enter Tryz.func15, Tryz.ntmps15
  go_wp2_with fail
  go_ret
  exact ⟨false, rfl, (fun h => by cases h), (Kp.refl _ w).alloc _⟩

set_option maxHeartbeats 3200000 in
set_option maxRecDepth 100000 in
theorem IsPlainNo_low {P : Prop} {w : World} {d : Nat} {k : Int} {i : Int} {r : Nat} {t : ByteArray} {nl c nk ck : Nat} {ao ako : Option Addr} (hd : 0 < d) (hd12 : d ≤ 12) (hk : k < 1) :
    Calls Tryz.prog 15 #[.agg #[.int .i64 k, .int .i64 i, .float .f64 r, .string t, .slice ao nl c, .slice ako nk ck], .int .i64 d] w (Says P w) := by
  have hd0 : ((d : Int) == 0) = false := by rw [beq_eq_false_iff_ne]; omega
  clear hd
  go_enter Tryz.func15, Tryz.ntmps15
  go_wp2_with fail
  go_ret
  exact ⟨false, rfl, (fun h => by cases h), (Kp.refl _ w).alloc _⟩

set_option maxHeartbeats 3200000 in
set_option maxRecDepth 100000 in
theorem IsPlainNo_high {P : Prop} {w : World} {d : Nat} {k : Int} {i : Int} {r : Nat} {t : ByteArray} {nl c nk ck : Nat} {ao ako : Option Addr} (hd : 0 < d) (hd12 : d ≤ 12) (hk1 : 1 ≤ k) (hk : 7 < k) :
    Calls Tryz.prog 15 #[.agg #[.int .i64 k, .int .i64 i, .float .f64 r, .string t, .slice ao nl c, .slice ako nk ck], .int .i64 d] w (Says P w) := by
  have hd0 : ((d : Int) == 0) = false := by rw [beq_eq_false_iff_ne]; omega
  clear hd
  go_enter Tryz.func15, Tryz.ntmps15
  go_wp2_with fail
  go_ret
  exact ⟨false, rfl, (fun h => by cases h), (Kp.refl _ w).alloc _⟩

set_option maxHeartbeats 3200000 in
set_option maxRecDepth 100000 in
theorem IsPlainNo_truth {P : Prop} {w : World} {d : Nat} {i : Int} {r : Nat} {t : ByteArray} {nl c nk ck : Nat} {ao ako : Option Addr} (hd : 0 < d) (hd12 : d ≤ 12) (h0 : ¬ i = 0) (h1 : ¬ i = 1) :
    Calls Tryz.prog 15 #[.agg #[.int .i64 2, .int .i64 i, .float .f64 r, .string t, .slice ao nl c, .slice ako nk ck], .int .i64 d] w (Says P w) := by
  have hd0 : ((d : Int) == 0) = false := by rw [beq_eq_false_iff_ne]; omega
  clear hd
  have e0 : (i != 0) = true := by rw [bne_iff_ne]; exact h0
  have e1 : (i != 1) = true := by rw [bne_iff_ne]; exact h1
  clear h0 h1
  go_enter Tryz.func15, Tryz.ntmps15
  go_wp2_with fail
  go_ret
  exact ⟨false, rfl, (fun h => by cases h), (Kp.refl _ w).alloc _⟩

set_option maxHeartbeats 3200000 in
set_option maxRecDepth 100000 in
theorem IsPlainNo_nan_a {P : Prop} {w : World} {d : Nat} {k : Int} {i : Int} {r : Nat} {t : ByteArray} {nl c nk ck : Nat} {ao ako : Option Addr} (hd : 0 < d) (hd12 : d ≤ 12) (hk1 : 1 ≤ k) (hk7 : k ≤ 7) (hk2 : ¬ k = 2) (hr : 2047 * 2 ^ 52 < r % 2 ^ 63) :
    Calls Tryz.prog 15 #[.agg #[.int .i64 k, .int .i64 i, .float .f64 r, .string t, .slice ao nl c, .slice ako nk ck], .int .i64 d] w (Says P w) := by
  have hd0 : ((d : Int) == 0) = false := by rw [beq_eq_false_iff_ne]; omega
  clear hd
  have hk2b : (k == 2) = false := by rw [beq_eq_false_iff_ne]; exact hk2
  clear hk2
  have hrr : (FloatKind.f64.format.order r r != some .eq) = true := rr_nan hr
  clear hr
  go_enter Tryz.func15, Tryz.ntmps15
  go_wp2_with fail
  go_ret
  exact ⟨false, rfl, (fun h => by cases h), (Kp.refl _ w).alloc _⟩

set_option maxHeartbeats 3200000 in
set_option maxRecDepth 100000 in
theorem IsPlainNo_inf_a {P : Prop} {w : World} {d : Nat} {k : Int} {i : Int} {r : Nat} {t : ByteArray} {nl c nk ck : Nat} {ao ako : Option Addr} (hd : 0 < d) (hd12 : d ≤ 12) (hk1 : 1 ≤ k) (hk7 : k ≤ 7) (hk2 : ¬ k = 2) (hr : r % 2 ^ 63 = 2047 * 2 ^ 52) :
    Calls Tryz.prog 15 #[.agg #[.int .i64 k, .int .i64 i, .float .f64 r, .string t, .slice ao nl c, .slice ako nk ck], .int .i64 d] w (Says P w) := by
  have hd0 : ((d : Int) == 0) = false := by rw [beq_eq_false_iff_ne]; omega
  clear hd
  have hk2b : (k == 2) = false := by rw [beq_eq_false_iff_ne]; exact hk2
  clear hk2
  have hrr : (FloatKind.f64.format.order r r != some .eq) = false := (rr_inf hr).1
  have hsub := fun w => sub_nan (rr_inf hr).2 w
  have hz : ∀ q, (FloatKind.f64.format.order (nanW q) 0 != some .eq) = true := nanW_nan
  clear hr
  go_enter Tryz.func15, Tryz.ntmps15
  go_wp2_with fail
  go_ret
  exact ⟨false, rfl, (fun h => by cases h), ((Kp.refl _ w).alloc _).drew⟩

set_option maxHeartbeats 3200000 in
set_option maxRecDepth 100000 in
theorem IsPlainNo_utf_a {P : Prop} {w : World} {d : Nat} {k : Int} {i : Int} {r : Nat} {t : ByteArray} {nl c nk ck : Nat} {ao ako : Option Addr} (hd : 0 < d) (hd12 : d ≤ 12) (hk1 : 1 ≤ k) (hk7 : k ≤ 7) (hk2 : ¬ k = 2) (hr : r % 2 ^ 63 < 2047 * 2 ^ 52) (hr64 : r < 2 ^ 64) (hts : t.size ≤ lim) (hu : ¬ Utf.ok t.data.toList = true) :
    Calls Tryz.prog 15 #[.agg #[.int .i64 k, .int .i64 i, .float .f64 r, .string t, .slice ao nl c, .slice ako nk ck], .int .i64 d] w (Says P w) := by
  have hd0 : ((d : Int) == 0) = false := by rw [beq_eq_false_iff_ne]; omega
  clear hd
  have hk2b : (k == 2) = false := by rw [beq_eq_false_iff_ne]; exact hk2
  clear hk2
  obtain ⟨x, neg, hx, hrx⟩ := word_split hr64 hr
  have hrx' : r = x ∨ r = x + 2 ^ 63 := by rw [hrx]; cases neg <;> simp [signW]
  have hrr : (FloatKind.f64.format.order r r != some .eq) = false := (rr_fin hx hrx').1
  have hsub : ∀ w, (binOp .sub 22 (.float .f64 r) (.float .f64 r)).run Tryz.prog w = .ok (.float .f64 0) w := fun w => run_float_arith w .sub _ .f64 _ _ _ (rr_fin hx hrx').2
  have hz := zero_eq
  have hucH := Lib.hid (fun W => IsUTF8_no (w := W) hts hu)
  clear hrx hrx' hx hr hr64 hts hu
  go_enter Tryz.func15, Tryz.ntmps15
  go_wp2_with (go_at_call 21; refine (hucH.out _).mono ?_; rintro ev w2 ⟨rfl, nu, rfl⟩)
  go_ret
  exact ⟨false, rfl, (fun h => by cases h), ((Kp.refl _ w).alloc _).drewN _⟩

set_option maxHeartbeats 3200000 in
set_option maxRecDepth 100000 in
theorem IsPlainNo_nan_b {P : Prop} {w : World} {d : Nat} {r : Nat} {t : ByteArray} {nl c nk ck : Nat} {ao ako : Option Addr} (hd : 0 < d) (hd12 : d ≤ 12) (hr : 2047 * 2 ^ 52 < r % 2 ^ 63) :
    Calls Tryz.prog 15 #[.agg #[.int .i64 2, .int .i64 0, .float .f64 r, .string t, .slice ao nl c, .slice ako nk ck], .int .i64 d] w (Says P w) := by
  have hd0 : ((d : Int) == 0) = false := by rw [beq_eq_false_iff_ne]; omega
  clear hd
  have hrr : (FloatKind.f64.format.order r r != some .eq) = true := rr_nan hr
  clear hr
  go_enter Tryz.func15, Tryz.ntmps15
  go_wp2_with fail
  go_ret
  exact ⟨false, rfl, (fun h => by cases h), (Kp.refl _ w).alloc _⟩

set_option maxHeartbeats 3200000 in
set_option maxRecDepth 100000 in
theorem IsPlainNo_inf_b {P : Prop} {w : World} {d : Nat} {r : Nat} {t : ByteArray} {nl c nk ck : Nat} {ao ako : Option Addr} (hd : 0 < d) (hd12 : d ≤ 12) (hr : r % 2 ^ 63 = 2047 * 2 ^ 52) :
    Calls Tryz.prog 15 #[.agg #[.int .i64 2, .int .i64 0, .float .f64 r, .string t, .slice ao nl c, .slice ako nk ck], .int .i64 d] w (Says P w) := by
  have hd0 : ((d : Int) == 0) = false := by rw [beq_eq_false_iff_ne]; omega
  clear hd
  have hrr : (FloatKind.f64.format.order r r != some .eq) = false := (rr_inf hr).1
  have hsub := fun w => sub_nan (rr_inf hr).2 w
  have hz : ∀ q, (FloatKind.f64.format.order (nanW q) 0 != some .eq) = true := nanW_nan
  clear hr
  go_enter Tryz.func15, Tryz.ntmps15
  go_wp2_with fail
  go_ret
  exact ⟨false, rfl, (fun h => by cases h), ((Kp.refl _ w).alloc _).drew⟩

set_option maxHeartbeats 3200000 in
set_option maxRecDepth 100000 in
theorem IsPlainNo_utf_b {P : Prop} {w : World} {d : Nat} {r : Nat} {t : ByteArray} {nl c nk ck : Nat} {ao ako : Option Addr} (hd : 0 < d) (hd12 : d ≤ 12) (hr : r % 2 ^ 63 < 2047 * 2 ^ 52) (hr64 : r < 2 ^ 64) (hts : t.size ≤ lim) (hu : ¬ Utf.ok t.data.toList = true) :
    Calls Tryz.prog 15 #[.agg #[.int .i64 2, .int .i64 0, .float .f64 r, .string t, .slice ao nl c, .slice ako nk ck], .int .i64 d] w (Says P w) := by
  have hd0 : ((d : Int) == 0) = false := by rw [beq_eq_false_iff_ne]; omega
  clear hd
  obtain ⟨x, neg, hx, hrx⟩ := word_split hr64 hr
  have hrx' : r = x ∨ r = x + 2 ^ 63 := by rw [hrx]; cases neg <;> simp [signW]
  have hrr : (FloatKind.f64.format.order r r != some .eq) = false := (rr_fin hx hrx').1
  have hsub : ∀ w, (binOp .sub 22 (.float .f64 r) (.float .f64 r)).run Tryz.prog w = .ok (.float .f64 0) w := fun w => run_float_arith w .sub _ .f64 _ _ _ (rr_fin hx hrx').2
  have hz := zero_eq
  have hucH := Lib.hid (fun W => IsUTF8_no (w := W) hts hu)
  clear hrx hrx' hx hr hr64 hts hu
  go_enter Tryz.func15, Tryz.ntmps15
  go_wp2_with (go_at_call 21; refine (hucH.out _).mono ?_; rintro ev w2 ⟨rfl, nu, rfl⟩)
  go_ret
  exact ⟨false, rfl, (fun h => by cases h), ((Kp.refl _ w).alloc _).drewN _⟩

set_option maxHeartbeats 3200000 in
set_option maxRecDepth 100000 in
theorem IsPlainNo_nan_c {P : Prop} {w : World} {d : Nat} {r : Nat} {t : ByteArray} {nl c nk ck : Nat} {ao ako : Option Addr} (hd : 0 < d) (hd12 : d ≤ 12) (hr : 2047 * 2 ^ 52 < r % 2 ^ 63) :
    Calls Tryz.prog 15 #[.agg #[.int .i64 2, .int .i64 1, .float .f64 r, .string t, .slice ao nl c, .slice ako nk ck], .int .i64 d] w (Says P w) := by
  have hd0 : ((d : Int) == 0) = false := by rw [beq_eq_false_iff_ne]; omega
  clear hd
  have hrr : (FloatKind.f64.format.order r r != some .eq) = true := rr_nan hr
  clear hr
  go_enter Tryz.func15, Tryz.ntmps15
  go_wp2_with fail
  go_ret
  exact ⟨false, rfl, (fun h => by cases h), (Kp.refl _ w).alloc _⟩

set_option maxHeartbeats 3200000 in
set_option maxRecDepth 100000 in
theorem IsPlainNo_inf_c {P : Prop} {w : World} {d : Nat} {r : Nat} {t : ByteArray} {nl c nk ck : Nat} {ao ako : Option Addr} (hd : 0 < d) (hd12 : d ≤ 12) (hr : r % 2 ^ 63 = 2047 * 2 ^ 52) :
    Calls Tryz.prog 15 #[.agg #[.int .i64 2, .int .i64 1, .float .f64 r, .string t, .slice ao nl c, .slice ako nk ck], .int .i64 d] w (Says P w) := by
  have hd0 : ((d : Int) == 0) = false := by rw [beq_eq_false_iff_ne]; omega
  clear hd
  have hrr : (FloatKind.f64.format.order r r != some .eq) = false := (rr_inf hr).1
  have hsub := fun w => sub_nan (rr_inf hr).2 w
  have hz : ∀ q, (FloatKind.f64.format.order (nanW q) 0 != some .eq) = true := nanW_nan
  clear hr
  go_enter Tryz.func15, Tryz.ntmps15
  go_wp2_with fail
  go_ret
  exact ⟨false, rfl, (fun h => by cases h), ((Kp.refl _ w).alloc _).drew⟩

set_option maxHeartbeats 3200000 in
set_option maxRecDepth 100000 in
theorem IsPlainNo_utf_c {P : Prop} {w : World} {d : Nat} {r : Nat} {t : ByteArray} {nl c nk ck : Nat} {ao ako : Option Addr} (hd : 0 < d) (hd12 : d ≤ 12) (hr : r % 2 ^ 63 < 2047 * 2 ^ 52) (hr64 : r < 2 ^ 64) (hts : t.size ≤ lim) (hu : ¬ Utf.ok t.data.toList = true) :
    Calls Tryz.prog 15 #[.agg #[.int .i64 2, .int .i64 1, .float .f64 r, .string t, .slice ao nl c, .slice ako nk ck], .int .i64 d] w (Says P w) := by
  have hd0 : ((d : Int) == 0) = false := by rw [beq_eq_false_iff_ne]; omega
  clear hd
  obtain ⟨x, neg, hx, hrx⟩ := word_split hr64 hr
  have hrx' : r = x ∨ r = x + 2 ^ 63 := by rw [hrx]; cases neg <;> simp [signW]
  have hrr : (FloatKind.f64.format.order r r != some .eq) = false := (rr_fin hx hrx').1
  have hsub : ∀ w, (binOp .sub 22 (.float .f64 r) (.float .f64 r)).run Tryz.prog w = .ok (.float .f64 0) w := fun w => run_float_arith w .sub _ .f64 _ _ _ (rr_fin hx hrx').2
  have hz := zero_eq
  have hucH := Lib.hid (fun W => IsUTF8_no (w := W) hts hu)
  clear hrx hrx' hx hr hr64 hts hu
  go_enter Tryz.func15, Tryz.ntmps15
  go_wp2_with (go_at_call 21; refine (hucH.out _).mono ?_; rintro ev w2 ⟨rfl, nu, rfl⟩)
  go_ret
  exact ⟨false, rfl, (fun h => by cases h), ((Kp.refl _ w).alloc _).drewN _⟩


/-- WHAT spec.IsPlain SAYS, of every value. -/
theorem IsPlain_any (d : Nat) : ∀ (v : Val) (w : World) (N : Nat) (ls kv : Value), d ≤ 12 → Subs N w v ls kv → N ≤ w.heap.size → WfV v →
    Calls Tryz.prog 15 #[.agg (aggV v ls kv), .int .i64 d] w (Says (PlainV d v) w) := by
  induction d with
  | zero =>
    intro v w N ls kv _ hS _ _
    obtain ⟨k, i, r, t, l, ks⟩ := v
    obtain ⟨⟨ao, c, rfl, _⟩, ⟨ako, ck, rfl, _⟩⟩ := hS
    exact IsPlainNo_zero
  | succ d ih =>
    intro v w N ls kv hd12 hS hN hW
    obtain ⟨k, i, r, t, l, ks⟩ := v
    obtain ⟨⟨ao, c, rfl, hl⟩, ⟨ako, ck, rfl, hk⟩⟩ := hS
    simp only [WfV] at hW
    obtain ⟨_, _, hr64, hts, hll, hkls, hksz, hWL⟩ := hW
    have hd : 0 < d + 1 := by omega
    have ih' := fun v w N ls kv => ih v w N ls kv (by omega)
    simp only [aggV]
    by_cases h1 : k < 1
    · exact IsPlainNo_low hd hd12 h1
    by_cases h7 : 7 < k
    · exact IsPlainNo_high hd hd12 (by omega) h7
    have hk1 : 1 ≤ k := by omega
    have hk7 : k ≤ 7 := by omega
    rcases Nat.lt_trichotomy (r % 2 ^ 63) (2047 * 2 ^ 52) with hr | hr | hr
    · by_cases hu : Utf.ok t.data.toList = true
      · by_cases hk2 : k = 2
        · subst hk2
          by_cases hi0 : i = 0
          · subst hi0; exact IsPlain_b hd hd12 ⟨hk1, hk7⟩ hr hr64 hu hts hll hkls hksz hl hk hN hWL ih'
          · by_cases hi1 : i = 1
            · subst hi1; exact IsPlain_c hd hd12 ⟨hk1, hk7⟩ hr hr64 hu hts hll hkls hksz hl hk hN hWL ih'
            · exact IsPlainNo_truth hd hd12 hi0 hi1
        · exact IsPlain_a hk2 hd hd12 ⟨hk1, hk7⟩ hr hr64 hu hts hll hkls hksz hl hk hN hWL ih'
      · by_cases hk2 : k = 2
        · subst hk2
          by_cases hi0 : i = 0
          · subst hi0; exact IsPlainNo_utf_b hd hd12 hr hr64 hts hu
          · by_cases hi1 : i = 1
            · subst hi1; exact IsPlainNo_utf_c hd hd12 hr hr64 hts hu
            · exact IsPlainNo_truth hd hd12 hi0 hi1
        · exact IsPlainNo_utf_a hd hd12 hk1 hk7 hk2 hr hr64 hts hu
    · by_cases hk2 : k = 2
      · subst hk2
        by_cases hi0 : i = 0
        · subst hi0; exact IsPlainNo_inf_b hd hd12 hr
        · by_cases hi1 : i = 1
          · subst hi1; exact IsPlainNo_inf_c hd hd12 hr
          · exact IsPlainNo_truth hd hd12 hi0 hi1
      · exact IsPlainNo_inf_a hd hd12 hk1 hk7 hk2 hr
    · by_cases hk2 : k = 2
      · subst hk2
        by_cases hi0 : i = 0
        · subst hi0; exact IsPlainNo_nan_b hd hd12 hr
        · by_cases hi1 : i = 1
          · subst hi1; exact IsPlainNo_nan_c hd hd12 hr
          · exact IsPlainNo_truth hd hd12 hi0 hi1
      · exact IsPlainNo_nan_a hd hd12 hk1 hk7 hk2 hr
end Go.Proofs.YtokmkkkanphihaaGreatRDoor
