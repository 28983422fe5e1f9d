/- shortFloat[float64], where the shortest decimal is found. -/
import Derived.Test.YtokmkkkanphihaaGreatRDoorFtoaB
namespace Go.Proofs.YtokmkkkanphihaaGreatRDoor
open Go.RowKit

theorem l10_at (x : Int) (t p : Nat) (w : World) (hx : x = -(t : Int)) (hp : p = Fl.pB t) (h : t ≤ 2000) : Calls Tryz.prog 97 #[.int .i64 x] w fun e w' => e = .returned (.int .i64 (-(p : Int))) ∧ w' = w := by
  subst hx hp
  exact log10Pow2_neg t w h

theorem sk_at (x : Int) (t p : Nat) (w : World) (hx : x = -(t : Int)) (hp : p = Fl.pA t) (h : t ≤ 2000) : Calls Tryz.prog 107 #[.int .i64 x] w fun e w' => e = .returned (.int .i64 (-(p : Int))) ∧ w' = w := by
  subst hx hp
  exact skewed_neg t w h

theorem usc_at (v : Int) (x H s u c : Nat) (w w0 : World) (hv : v = (x : Int)) (hx : x < 18446744073709551616) (hH : H < 18446744073709551616) (hs : s < 64) (hu : uscG x H s = u)
    (hP : PreTo w0 w c H s) :
    Calls Tryz.prog 110 #[.int .u64 v, .pointer (some ⟨c, 0, none⟩)] w fun e w' => e = .returned (.int .u64 (u : Int)) ∧ ∃ n, w' = w.drewN n := by
  subst hv hu
  exact uscale_any x H s c w hx hH hs hP.c0 hP.c1 hP.c2

theorem nud_at (v : Int) (u o : Nat) (w : World) (hv : v = -(o : Int)) (hu : u ≤ 1000000000000000000) (ho : o < 2) (h : o ≤ u) : Calls Tryz.prog 111 #[.int .u64 (u : Int), .int .i64 v] w fun e w' => e = .returned (.int .u64 ((u - o : Nat) : Int)) ∧ w' = w := by
  subst hv
  exact nudge_down u o w hu ho h

theorem ceil_at (v : Int) (u d : Nat) (w : World) (hv : v = (u : Int)) (hu : u ≤ 2000000000000000000) (hd : (u + 3) / 4 = d) : Calls Tryz.prog 112 #[.int .u64 v] w fun e w' => e = .returned (.int .u64 (d : Int)) ∧ w' = w := by
  subst hd hv
  exact ceil_any u w hu

theorem floor_at (v : Int) (u d : Nat) (w : World) (hv : v = (u : Int)) (hu : u ≤ 2000000000000000000) (hd : u / 4 = d) : Calls Tryz.prog 113 #[.int .u64 v] w fun e w' => e = .returned (.int .u64 (d : Int)) ∧ w' = w := by
  subst hd hv
  exact floor_any u w hu

set_option maxHeartbeats 1600000 in
set_option maxRecDepth 100000 in
theorem shortFloat_plain (x t p o D u1 u2 : Nat) (w : World) (hx : 9223372036854775808 < x) (hx2 : x < 18446744073709549569) (ho : o < 2)
    (hodd : bits BinOp.and IntKind.i64 ((x : Int) / 2048) 1 = (o : Int)) (ht2 : 2 ≤ t) (ht : t < 83) (hp : p = Fl.pB t) (htab : PowAt w p)
    (hu1 : uscG (x - 1024) (Fl.pm p) (t + 8 - Fl.lp p) = u1) (hu2 : uscG (x + 1024) (Fl.pm p) (t + 8 - Fl.lp p) = u2)
    (hb1 : u1 ≤ 1000000000000000000) (hb2 : u2 ≤ 1000000000000000000)
    (h1 : (u1 + o + 3) / 4 ≤ 10 * D) (h2 : o ≤ u2) (h3 : 10 * D ≤ (u2 - o) / 4) (h4 : (u2 - o) / 4 < 10 * D + 10) :
    Calls Tryz.prog 102 #[.int .u64 (x : Int), .int .i64 (-((t : Int) + 11))] w fun e w' => e = .returned (.tuple #[.int .u64 (D : Int), .int .i64 (-((p : Int) - 1))]) ∧
      Below w.heap.size w w' := by
  obtain ⟨hok, -, -⟩ := Fl.okB t ht ht2
  rw [← hp] at hok
  obtain ⟨k1, k2, k3, k4, k5, k6, k7, k8⟩ := Fl.okT_spec hok
  have hpre := prescale_new t p w k2 (by omega) k3 htab
  have hH : Fl.pm p < 18446744073709551616 := k6
  obtain ⟨s, hs⟩ : ∃ s, s = t + 8 - Fl.lp p := ⟨_, rfl⟩
  rw [← hs] at hpre hu1 hu2 k4
  obtain ⟨H, hHH⟩ : ∃ H, H = Fl.pm p := ⟨_, rfl⟩
  rw [← hHH] at hpre hu1 hu2 hH
  have hpreH := Lib.hid hpre
  have hu1H := Lib.hid hu1
  have hu2H := Lib.hid hu2
  have hHH2 := Lib.hid hH
  have hpH := Lib.hid hp
  have hdiv : ((u2 - o) / 4) / 10 = D := by omega
  have hdivH := Lib.hid hdiv
  have h1H := Lib.hid h1
  have h3H := Lib.hid h3
  have h4H := Lib.hid h4
  have hb1H := Lib.hid hb1
  have hb2H := Lib.hid hb2
  have k2H := Lib.hid k2
  have k4H := Lib.hid k4
  have hneq : ((x : Int) == 9223372036854775808) = false := by rw [beq_eq_false_iff_ne]; omega
  clear hpre hu1 hu2 hH hp hok k5 k6 k7 k8 hHH hs k3 hdiv h1 h3 h4 hb1 hb2 k4 htab
  go_enter Tryz.func102, Tryz.ntmps102
  go_wp2_with fail
  refine (l10_at _ t p _ (by omega) hpH.out (by omega)).mono ?_
  rintro e w' ⟨rfl, rfl⟩
  go_wp2_with fail
  refine (log2Pow10_any p _ (by omega)).mono ?_
  rintro e w' ⟨rfl, rfl⟩
  go_wp2_with fail
  refine hpreH.out.mono ?_
  rintro e w' ⟨rfl, hP⟩
  go_wp2_with fail
  refine (usc_at _ (x - 1024) H s u1 _ _ _ (by omega) (by omega) hHH2.out k4H.out hu1H.out hP).mono ?_
  rintro e w1 ⟨rfl, n1, rfl⟩
  go_wp2_with fail
  refine (nudge_up u1 o _ hb1H.out ho).mono ?_
  rintro e w1 ⟨rfl, rfl⟩
  go_wp2_with fail
  obtain ⟨dmn, hdmn⟩ : ∃ d, (u1 + o + 3) / 4 = d := ⟨_, rfl⟩
  refine (ceil_at _ (u1 + o) dmn _ (by push_cast; rfl) (by have := hb1H.out; omega) hdmn).mono ?_
  rintro e w1 ⟨rfl, rfl⟩
  go_wp2_with fail
  refine (usc_at _ (x + 1024) H s u2 _ _ _ (by omega) (by omega) hHH2.out k4H.out hu2H.out (hP.drewN _)).mono ?_
  rintro e w1 ⟨rfl, n2, rfl⟩
  go_wp2_with fail
  refine (nud_at _ u2 o _ (by omega) hb2H.out ho h2).mono ?_
  rintro e w1 ⟨rfl, rfl⟩
  go_wp2_with fail
  obtain ⟨dmx, hdmx⟩ : ∃ d, (u2 - o) / 4 = d := ⟨_, rfl⟩
  refine (floor_at _ (u2 - o) dmx _ (by omega) (by have := hb2H.out; omega) hdmx).mono ?_
  rintro e w1 ⟨rfl, rfl⟩
  have hd1 : (dmx : Int) / 10 = (D : Int) := by have := hdivH.out; omega
  have hd2 : dmn ≤ 10 * D := by have := h1H.out; omega
  have hd3 : D < 1000000000000000000 := by have := h3H.out; have := hb2H.out; omega
  clear hdmx hdmn hx hx2 hodd hneq ht2 ht h2
  go_wp2_with fail
  go_ret2
  exact ⟨rfl, below_drewN hP.below _⟩
set_option maxHeartbeats 1600000 in
set_option maxRecDepth 100000 in
theorem shortFloat_pow (t p D u1 u2 : Nat) (w : World) (ht2 : 2 ≤ t) (ht : t < 83) (hp : p = Fl.pA t) (htab : PowAt w p)
    (hu1 : uscG (9223372036854775296) (Fl.pm p) (t + 8 - Fl.lp p) = u1) (hu2 : uscG (9223372036854776832) (Fl.pm p) (t + 8 - Fl.lp p) = u2)
    (hb1 : u1 ≤ 1000000000000000000) (hb2 : u2 ≤ 1000000000000000000)
    (h1 : (u1 + 3) / 4 ≤ 10 * D) (h3 : 10 * D ≤ (u2) / 4) (h4 : (u2) / 4 < 10 * D + 10) :
    Calls Tryz.prog 102 #[.int .u64 9223372036854775808, .int .i64 (-((t : Int) + 11))] w fun e w' => e = .returned (.tuple #[.int .u64 (D : Int), .int .i64 (-((p : Int) - 1))]) ∧
      Below w.heap.size w w' := by
  obtain ⟨hok, -, -⟩ := Fl.okA t ht ht2
  rw [← hp] at hok
  obtain ⟨k1, k2, k3, k4, k5, k6, k7, k8⟩ := Fl.okT_spec hok
  have hpre := prescale_new t p w k2 (by omega) k3 htab
  have hH : Fl.pm p < 18446744073709551616 := k6
  obtain ⟨s, hs⟩ : ∃ s, s = t + 8 - Fl.lp p := ⟨_, rfl⟩
  rw [← hs] at hpre hu1 hu2 k4
  obtain ⟨H, hHH⟩ : ∃ H, H = Fl.pm p := ⟨_, rfl⟩
  rw [← hHH] at hpre hu1 hu2 hH
  have hpreH := Lib.hid hpre
  have hu1H := Lib.hid hu1
  have hu2H := Lib.hid hu2
  have hHH2 := Lib.hid hH
  have hpH := Lib.hid hp
  have hdiv : ((u2) / 4) / 10 = D := by omega
  have hdivH := Lib.hid hdiv
  have h1H := Lib.hid h1
  have h3H := Lib.hid h3
  have h4H := Lib.hid h4
  have hb1H := Lib.hid hb1
  have hb2H := Lib.hid hb2
  have k2H := Lib.hid k2
  have k4H := Lib.hid k4
  clear hpre hu1 hu2 hH hp hok k5 k6 k7 k8 hHH hs k3 hdiv h1 h3 h4 hb1 hb2 k4 htab
  go_enter Tryz.func102, Tryz.ntmps102
  go_wp2_with fail
  refine (sk_at _ t p _ (by omega) hpH.out (by omega)).mono ?_
  rintro e w' ⟨rfl, rfl⟩
  go_wp2_with fail
  refine (log2Pow10_any p _ (by omega)).mono ?_
  rintro e w' ⟨rfl, rfl⟩
  go_wp2_with fail
  refine hpreH.out.mono ?_
  rintro e w' ⟨rfl, hP⟩
  go_wp2_with fail
  refine (usc_at _ (9223372036854775296) H s u1 _ _ _ (by omega) (by omega) hHH2.out k4H.out hu1H.out hP).mono ?_
  rintro e w1 ⟨rfl, n1, rfl⟩
  go_wp2_with fail
  refine (nudge_up u1 0 _ hb1H.out (by omega)).mono ?_
  rintro e w1 ⟨rfl, rfl⟩
  go_wp2_with fail
  obtain ⟨dmn, hdmn⟩ : ∃ d, (u1 + 3) / 4 = d := ⟨_, rfl⟩
  refine (ceil_at _ (u1) dmn _ (by omega) (by have := hb1H.out; omega) hdmn).mono ?_
  rintro e w1 ⟨rfl, rfl⟩
  go_wp2_with fail
  refine (usc_at _ (9223372036854776832) H s u2 _ _ _ (by omega) (by omega) hHH2.out k4H.out hu2H.out (hP.drewN _)).mono ?_
  rintro e w1 ⟨rfl, n2, rfl⟩
  go_wp2_with fail
  refine (nud_at _ u2 0 _ (by decide +kernel) hb2H.out (by omega) (by omega)).mono ?_
  rintro e w1 ⟨rfl, rfl⟩
  go_wp2_with fail
  obtain ⟨dmx, hdmx⟩ : ∃ d, (u2) / 4 = d := ⟨_, rfl⟩
  refine (floor_at _ (u2) dmx _ (by omega) (by have := hb2H.out; omega) hdmx).mono ?_
  rintro e w1 ⟨rfl, rfl⟩
  have hd1 : (dmx : Int) / 10 = (D : Int) := by have := hdivH.out; omega
  have hd2 : dmn ≤ 10 * D := by have := h1H.out; omega
  have hd3 : D < 1000000000000000000 := by have := h3H.out; have := hb2H.out; omega
  clear hdmx hdmn ht2 ht
  go_wp2_with fail
  go_ret2
  exact ⟨rfl, below_drewN hP.below _⟩
end Go.Proofs.YtokmkkkanphihaaGreatRDoor
