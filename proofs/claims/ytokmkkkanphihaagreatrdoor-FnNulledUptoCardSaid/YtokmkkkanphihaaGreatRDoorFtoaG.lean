/- ftoa64 and AppendFloat at the format 'f', shortest: of a quotient n / 10^k. -/
import Derived.Test.YtokmkkkanphihaaGreatRDoorFtoaF
import Derived.Test.YtokmkkkanphihaaGreatRDoorFloatB
import Derived.Test.YtokmkkkanphihaaGreatRDoorDec
namespace Go.Proofs.YtokmkkkanphihaaGreatRDoor
open Go.RowKit Go.Sort

def signW (neg : Bool) : Nat := if neg then 9223372036854775808 else 0

theorem and_2047 (a : Nat) (h : a < 4096) : bits BinOp.and IntKind.i64 (a : Int) 2047 = ((a % 2048 : Nat) : Int) := by
  have h1 := (bits_nat .i64 12 (by decide) (fun n h0 h1 => by rw [IntKind.wrap_i64]; omega) a 2047 (by simpa using h) (by decide)).1
  have h2 : a &&& 2047 = a % 2048 := Nat.and_two_pow_sub_one_eq_mod a 11
  rw [h2] at h1
  exact h1

theorem and_mant (a : Nat) (h : a < 18446744073709551616) : bits BinOp.and IntKind.u64 (a : Int) 4503599627370495 = ((a % 4503599627370496 : Nat) : Int) := by
  have h1 := bits_and_u64_nat a 4503599627370495 h (by decide)
  have h2 : a &&& 4503599627370495 = a % 4503599627370496 := Nat.and_two_pow_sub_one_eq_mod a 52
  rw [h2] at h1
  exact h1

theorem or_mant (a : Nat) (h : a < 4503599627370496) : bits BinOp.or IntKind.u64 (a : Int) 4503599627370496 = (a : Int) + 4503599627370496 := by
  have h1 := bits_or_u64_nat a 4503599627370496 (by omega) (by decide)
  have h3 : (2 : Nat) ^ 52 = 4503599627370496 := by decide
  have h2 : 2 ^ 52 + a = 2 ^ 52 ||| a := by simpa using Nat.two_pow_add_eq_or_of_lt (i := 52) (b := a) (by rw [h3]; exact h) 1
  rw [h3] at h2
  rw [Nat.or_comm, ← h2] at h1
  refine h1.trans ?_
  omega

theorem and_one (a : Nat) (h : a < 9223372036854775808) : bits BinOp.and IntKind.i64 (a : Int) 1 = ((a % 2 : Nat) : Int) := by
  have h1 := (bits_nat .i64 63 (by decide) (fun n h0 h1 => by rw [IntKind.wrap_i64]; have : (2 : Int) ^ 63 = 9223372036854775808 := by decide
                                                              omega) a 1 (by have : (2 : Nat) ^ 63 = 9223372036854775808 := by decide
                                                                             omega) (by decide)).1
  have h2 : a &&& 1 = a % 2 := Nat.and_one_is_mod a
  rw [h2] at h1
  exact h1

theorem sign_b {E F : Nat} {neg : Bool} (hF : F < 4503599627370496) (hE : E < 2047) : (((E * 4503599627370496 + F + signW neg : Nat) : Int) / 9223372036854775808 != 0) = neg := by
  cases neg
  · unfold signW
    rw [if_neg (by decide), bne_eq_false_iff_eq]
    omega
  · unfold signW
    rw [if_pos rfl, bne_iff_ne]
    omega

theorem exp_b {E F : Nat} {neg : Bool} (hF : F < 4503599627370496) (hE : E < 2047) : bits BinOp.and IntKind.i64 (((E * 4503599627370496 + F + signW neg : Nat) : Int) / 4503599627370496) 2047 = (E : Int) := by
  have e : (((E * 4503599627370496 + F + signW neg : Nat) : Int) / 4503599627370496) = ((E + (if neg then 2048 else 0) : Nat) : Int) := by
    cases neg
    · unfold signW
      simp
      omega
    · unfold signW
      simp
      omega
  rw [e, and_2047 _ (by split <;> omega)]
  cases neg
  · simp; omega
  · simp; omega

theorem man_b {E F : Nat} {neg : Bool} (hF : F < 4503599627370496) (hE : E < 2047) : bits BinOp.and IntKind.u64 ((E * 4503599627370496 + F + signW neg : Nat) : Int) 4503599627370495 = (F : Int) := by
  rw [and_mant _ (by unfold signW; split <;> omega)]
  unfold signW
  split <;> omega

/-- shortFloat, at what is known of it. -/
theorem sf_at {n k mag E F t p u1 u2 o D : Nat} (h : Fl.ShortAt n k mag E F t p u1 u2 o D) (W : World) (x y : Int) (hx : x = ((F : Int) + 4503599627370496) * 2048) (hy : y = -((t : Int) + 11)) (htab : PowAt W p) :
    Calls Tryz.prog 102 #[.int .u64 x, .int .i64 y] W fun e w' => e = .returned (.tuple #[.int .u64 (D : Int), .int .i64 (-((p : Int) - 1))]) ∧ Below W.heap.size W w' := by
  subst hy
  have hF := h.fr
  rcases h.way with ⟨f0, hp, ho, e1, e2⟩ | ⟨f0, hp, ho, e1, e2⟩
  · have ex : x = (((F + 4503599627370496) * 2048 : Nat) : Int) := by rw [hx]; omega
    subst ex
    refine shortFloat_plain ((F + 4503599627370496) * 2048) t p o D u1 u2 W (by omega) (by omega) (by have := Nat.mod_lt F (by decide : 0 < 2); rw [ho]; exact this) ?_ h.t2 h.t83 hp htab e1.symm e2.symm h.b1 h.b2 h.c1 h.c2 h.c3 h.c4
    have ed : ((((F + 4503599627370496) * 2048 : Nat) : Int) / 2048) = ((F + 4503599627370496 : Nat) : Int) := by omega
    rw [ed, and_one _ (by omega), ho]
    omega
  · subst f0
    have ex : x = 9223372036854775808 := by rw [hx]; rfl
    subst ex
    subst ho
    exact shortFloat_pow t p D u1 u2 W h.t2 h.t83 hp htab e1.symm e2.symm h.b1 h.b2 (by simpa using h.c1) (by simpa using h.c3) (by simpa using h.c4)

/-- What strconv writes of the quotient n / 10^k: the format 'f', as few digits as name it. -/
theorem ftoa_short {w : World} {N n k mag : Nat} {v : Value} {out : List UInt8} (neg : Bool) (hn0 : 0 < n) (hn : n < 10 ^ 15) (hk : k ≤ 9) (hred : k = 0 ∨ n % 10 ≠ 0) (h : Ieee.double.div (Fl.ofN n) (Fl.ofN (10 ^ k)) = some mag)
    (htab : ∀ p, p ≤ 25 → PowAt w p) (htab2 : Lib.TabIs Tryz.prog w "internal/strconv.uint64pow10" .u64 Lib.pow10Tab) (hN : N ≤ w.heap.size)
    (hown : w.ownsRow N 5 1 v out.length (bvs out)) (hnew : v.ownBlock ≠ some w.heap.size) (hlen : out.length + 100 ≤ lim) :
    Calls Tryz.prog 84 #[v, .float .f64 (mag + signW neg), .int .u8 102, .int .i64 (-1)] w (RetBuf w N v (out ++ (sgn neg ++ Fl.plainTxt n k))) := by
  obtain ⟨E, F, t, p, u1, u2, o, D, hS⟩ := Fl.short_at hn0 hn hk h
  obtain ⟨m, j, hm, hm10⟩ := Fl.strip_zero n hn0
  have hp25 : p ≤ 25 := by
    rcases hS.way with ⟨_, hp, _⟩ | ⟨_, hp, _⟩
    · rw [hp]; exact (Fl.okT_spec (Fl.okB t hS.t83 hS.t2).1).2.1
    · rw [hp]; exact (Fl.okT_spec (Fl.okA t hS.t83 hS.t2).1).2.1
  have hm0 : 0 < m := by
    rcases Nat.eq_zero_or_pos m with h' | h'
    · subst h'; simp at hm10
    · exact h'
  have hD : Lib.decDigits D = Lib.decDigits m ++ List.replicate (j + (p - 1 - k)) 48 := by
    rw [hS.dv, hm, Nat.mul_assoc, ← Nat.pow_add, Fl.dec_mul _ hm0]
  have hD64 : D < 18446744073709551616 := by
    have h1 := hS.c3
    have h2 := hS.b2
    omega
  have hL := Fl.dec_pos m
  have hLn : (Lib.decDigits m).length + j = (Lib.decDigits n).length := by rw [hm, Fl.dec_mul _ hm0]; simp
  have hn16 : (Lib.decDigits n).length ≤ 15 := by
    rcases Nat.lt_or_ge 15 (Lib.decDigits n).length with h' | h'
    · exfalso
      have h1 := Fl.dec_fill 15 n hn0 hn
      have h2 := congrArg List.length h1
      rw [Fl.digs_len] at h2
      simp at h2
      omega
    · exact h'
  have hkp := hS.kp
  have hkj : k = 0 ∨ j = 0 := by
    rcases hred with h' | h'
    · exact .inl h'
    · right
      rcases Nat.eq_zero_or_pos j with h'' | h''
      · exact h''
      · exfalso; apply h'; rw [hm, show j = (j - 1) + 1 by omega, Nat.pow_succ, ← Nat.mul_assoc, Nat.mul_mod_left]
  have htxt := Fl.efg_plain (k := k) hm10 hkj
  rw [← hm] at htxt
  have hb : mag + signW neg = E * 4503599627370496 + F + signW neg := by rw [hS.word]
  have hEt := hS.et
  have hb64 : E * 4503599627370496 + F + signW neg < 18446744073709551616 := by have := hS.fr; have := hS.t2; unfold signW; split <;> omega
  rw [hb]
  refine ftoa64_any (p := p) (D := D) (L := (Lib.decDigits m).length) (z := j + (p - 1 - k)) (ds := Lib.decDigits m) (neg := neg)
    (dp := ((Lib.decDigits m).length : Int) + j - k) (pr := max (((Lib.decDigits m).length : Int) - (((Lib.decDigits m).length : Int) + j - k)) 0)
    (sign_b hS.fr (by omega)) (exp_b hS.fr (by omega)) (man_b hS.fr (by omega)) (or_mant F hS.fr) hb64 hS.fr hS.et hS.t2 hS.t83 (fun W x y hx hy hW => sf_at hS W x y hx hy hW)
    (htab p hp25) htab2 hD hD64 rfl hL (Fl.dec_last hm10) (by omega) hp25 (by omega) rfl ?_ hown
  intro W hWs hWo hdig
  rw [← htxt]
  have hNW : N ≤ W.heap.size := by omega
  unfold Fl.efgTxt
  generalize hds : Lib.decDigits m = ds at *
  rcases Int.lt_or_le 0 (((ds.length : Int) + j - k)) with hpos | hneg
  · rw [if_neg (by omega)]
    by_cases hlt : ((ds.length : Int) + j - k) < ds.length
    · rw [if_pos hlt]
      obtain ⟨d, hd⟩ : ∃ d : Nat, ((ds.length : Int) + j - k) = d := ⟨((ds.length : Int) + j - k).toNat, by omega⟩
      obtain ⟨r, hr⟩ : ∃ r : Nat, max ((ds.length : Int) - ((ds.length : Int) + j - k)) 0 = r := ⟨ds.length - d, by omega⟩
      rw [hr, hd]
      have e := @fmt_frac_f
      cases neg
      · have h5 := fmt_frac_f (r := r) (dp := d) rfl (by omega) (by omega) (by omega) (by omega) hdig hWs hnew hWo hNW (by unfold lim at *; omega)
        simpa [sgn] using h5
      · have h5 := fmt_frac_t (r := r) (dp := d) rfl (by omega) (by omega) (by omega) (by omega) hdig hWs hnew hWo hNW (by unfold lim at *; omega)
        simpa [sgn] using h5
    · rw [if_neg hlt]
      obtain ⟨d, hd⟩ : ∃ d : Nat, ((ds.length : Int) + j - k) = d := ⟨((ds.length : Int) + j - k).toNat, by omega⟩
      have hr : max ((ds.length : Int) - ((ds.length : Int) + j - k)) 0 = 0 := by omega
      rw [hr, hd]
      cases neg
      · have h5 := fmt_int_f (dp := d) rfl (by omega) (by omega) (by omega) (by omega) hdig hWs hnew hWo hNW (by unfold lim at *; omega)
        simpa [sgn] using h5
      · have h5 := fmt_int_t (dp := d) rfl (by omega) (by omega) (by omega) (by omega) hdig hWs hnew hWo hNW (by unfold lim at *; omega)
        simpa [sgn] using h5
  · rw [if_pos (by omega)]
    obtain ⟨d, hd⟩ : ∃ d : Nat, ((ds.length : Int) + j - k) = -(d : Int) := ⟨(-((ds.length : Int) + j - k)).toNat, by omega⟩
    obtain ⟨r, hr⟩ : ∃ r : Nat, max ((ds.length : Int) - ((ds.length : Int) + j - k)) 0 = r := ⟨ds.length + d, by omega⟩
    rw [hr, hd]
    cases neg
    · have h5 := fmt_small_f (z := d) (r := r) rfl (by omega) (by omega) (by omega) (by omega) hdig hWs hnew hWo hNW (by unfold lim at *; omega)
      simpa [sgn] using h5
    · have h5 := fmt_small_t (z := d) (r := r) rfl (by omega) (by omega) (by omega) (by omega) hdig hWs hnew hWo hNW (by unfold lim at *; omega)
      simpa [sgn] using h5

set_option maxHeartbeats 6400000 in
set_option maxRecDepth 100000 in
theorem ftoa_zero {w : World} {N : Nat} {v : Value} {out : List UInt8} (neg : Bool) (hN : N ≤ w.heap.size) (hown : w.ownsRow N 5 1 v out.length (bvs out)) (hlen : out.length + 100 ≤ lim) :
    Calls Tryz.prog 84 #[v, .float .f64 (signW neg), .int .u8 102, .int .i64 (-1)] w (RetBuf w N v (out ++ (sgn neg ++ [48]))) := by
  have hsg := sign_b (E := 0) (F := 0) (neg := neg) (by decide) (by decide)
  have hex := exp_b (E := 0) (F := 0) (neg := neg) (by decide) (by decide)
  have hma := man_b (E := 0) (F := 0) (neg := neg) (by decide) (by decide)
  have hb : 0 * 4503599627370496 + 0 + signW neg = signW neg := by omega
  rw [hb] at hsg hex hma
  have hb64 : signW neg < 18446744073709551616 := by unfold signW; split <;> omega
  generalize signW neg = b at *
  have hbits := float64bits_at b
  have hf := fun n => (fmt_zero (w := w.drewN n) neg (ownsRow_step (w := w) (fun _ _ => rfl) hown) hN (Nat.le_trans (by omega) hlen))
  have hfH := Lib.hid hf
  clear hf hown hlen
  go_enter Tryz.func84, Tryz.ntmps84
  go_wp2_with fail
  go_quiet (fail)
  go_wp2_with fail
  refine (hfH.out nq).mono ?_
  rintro e w3 ⟨v3, rfl, hB3⟩
  go_wp2
  go_ret
  refine ⟨v3, rfl, ?_⟩
  rw [List.append_assoc] at hB3
  exact BufTo.pre (w1 := w.drewN nq) (fun _ _ => rfl) (Nat.le_refl _) rfl rfl rfl hB3
end Go.Proofs.YtokmkkkanphihaaGreatRDoor
