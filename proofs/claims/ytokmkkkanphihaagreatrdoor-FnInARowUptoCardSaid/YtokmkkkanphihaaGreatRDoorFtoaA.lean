/- The leaves of strconv's shortest form: log10Pow2, log2Pow10, skewed, nudge, floor, ceil, uscale, prescale. -/
import Derived.Test.YtokmkkkanphihaaGreatRDoorItoa
import Derived.Test.YtokmkkkanphihaaGreatRDoorFloat
import Derived.Laws.Bits64b
import Derived.Laws.BitsLemmas
namespace Go.Proofs.YtokmkkkanphihaaGreatRDoor
open Go.RowKit

set_option maxHeartbeats 400000 in
theorem bool2_u64 (b : Bool) (w : World) : Calls Tryz.prog 126 #[.bool b] w fun e w' => e = .returned (.int .u64 (if b then 1 else 0)) ∧ w' = w := by
  cases b
  · go_enter Tryz.func126, Tryz.ntmps126
    go_wp2
    go_ret
    exact ⟨rfl, rfl⟩
  · go_enter Tryz.func126, Tryz.ntmps126
    go_wp2
    go_ret
    exact ⟨rfl, rfl⟩

/-- What 'uscale' answers, at a table's low word of nought. -/
def uscG (x H s : Nat) : Nat :=
  let hi := x * H / 2 ^ 64
  let mid := x * H % 2 ^ 64
  if hi % 2 ^ s ≠ 0 then hi / 2 ^ s ||| 1 else hi / 2 ^ s ||| (if 1 < mid then 1 else 0)

theorem wrap_back {hi s : Nat} (h : hi < 2 ^ 64) : IntKind.u64.wrap ((hi : Int) / 2 ^ s * 2 ^ s) = ((hi / 2 ^ s * 2 ^ s : Nat) : Int) := by
  have h1 : hi / 2 ^ s * 2 ^ s ≤ hi := Nat.div_mul_le_self hi _
  have e : ((hi : Int) / 2 ^ s * 2 ^ s) = ((hi / 2 ^ s * 2 ^ s : Nat) : Int) := by push_cast; rfl
  rw [e]
  exact IntWalk.u64_in _ ⟨by omega, by omega⟩

theorem div_cast (hi s : Nat) : ((hi : Int) / 2 ^ s) = ((hi / 2 ^ s : Nat) : Int) := by push_cast; rfl

set_option maxHeartbeats 800000 in
set_option maxRecDepth 100000 in
theorem uscale_any (x H s : Nat) (c : Nat) (w : World) (hx : x < 18446744073709551616) (hH : H < 18446744073709551616) (hs : s < 64)
    (c0 : w.cell? ⟨c, 0, none⟩ = some (.int .u64 (H : Int))) (c1 : w.cell? ⟨c, 1, none⟩ = some (.int .u64 0)) (c2 : w.cell? ⟨c, 2, none⟩ = some (.int .i64 (s : Int))) :
    Calls Tryz.prog 110 #[.int .u64 (x : Int), .pointer (some ⟨c, 0, none⟩)] w fun e w' => e = .returned (.int .u64 (uscG x H s : Nat)) ∧ ∃ n, w' = w.drewN n := by
  have hmul := Tryz.bits_Mul64 x H hx hH w
  have hmul0 := Tryz.bits_Mul64 x 0 hx (by decide) w
  obtain ⟨hi, hhi⟩ : ∃ hi, hi = x * H / 18446744073709551616 := ⟨_, rfl⟩
  obtain ⟨mid, hmid⟩ : ∃ mid, mid = x * H % 18446744073709551616 := ⟨_, rfl⟩
  rw [← hhi, ← hmid] at hmul
  simp only [Nat.mul_zero, Nat.zero_div, Nat.zero_mod] at hmul0
  have hhi64 : hi < 2 ^ 64 := by
    rw [hhi]
    exact (Nat.div_lt_iff_lt_mul (by decide)).2 (Nat.mul_lt_mul_of_lt_of_lt hx hH)
  have hmid64 : mid < 2 ^ 64 := by rw [hmid]; exact Nat.mod_lt _ (by decide)
  have hu : uscG x H s = if hi % 2 ^ s ≠ 0 then hi / 2 ^ s ||| 1 else hi / 2 ^ s ||| (if 1 < mid then 1 else 0) := by
    rw [hhi, hmid]; rfl
  have hand : bits BinOp.and IntKind.i64 (s : Int) 63 = (s : Int) := by
    have : ∀ y : Fin 64, bits BinOp.and IntKind.i64 (y.val : Int) 63 = (y.val : Int) := by decide +kernel
    exact this ⟨s, hs⟩
  have hd64 : hi / 2 ^ s < 18446744073709551616 := Nat.lt_of_le_of_lt (Nat.div_le_self _ _) hhi64
  have hor1 : bits BinOp.or IntKind.u64 ((hi : Int) / 2 ^ s) 1 = ((hi / 2 ^ s ||| 1 : Nat) : Int) := by rw [div_cast]; exact bits_or_u64_nat _ 1 hd64 (by decide)
  have hor0 : bits BinOp.or IntKind.u64 ((hi : Int) / 2 ^ s) 0 = ((hi / 2 ^ s ||| 0 : Nat) : Int) := by rw [div_cast]; exact bits_or_u64_nat _ 0 hd64 (by decide)
  have hback := wrap_back (s := s) hhi64
  have hmodiff : hi / 2 ^ s * 2 ^ s = hi ↔ hi % 2 ^ s = 0 := by
    have := Nat.div_add_mod hi (2 ^ s)
    rw [Nat.mul_comm] at this
    omega
  have hmulH := Lib.hid hmul
  have hmul0H := Lib.hid hmul0
  have huH := Lib.hid hu
  have hhiH := Lib.hid hhi64
  have hmidH := Lib.hid hmid64
  by_cases hz : hi % 2 ^ s = 0
  · have ht : (IntKind.u64.wrap ((hi : Int) / 2 ^ s * 2 ^ s) != (hi : Int)) = false := by rw [hback, bne_eq_false_iff_eq]; exact_mod_cast hmodiff.2 hz
    have hfin : (uscG x H s : Nat) = hi / 2 ^ s ||| (if 1 < mid then 1 else 0) := by rw [hu, if_neg (by simpa using hz)]
    have hfinH := Lib.hid hfin
    clear hmul hmul0 hhi hmid hx hH hu hhi64 hmid64 hd64 hmodiff hfin hz hback
    have hs0 : (0 : Int) ≤ (s : Int) := by omega
    have hs1 : (s : Int) < 64 := by omega
    have hsub : IntKind.u64.wrap ((hi : Int) - 0) = (hi : Int) := by rw [Int.sub_zero]; exact IntWalk.u64_in _ ⟨by omega, by have := hhiH.out; omega⟩
    have hsub2 : IntKind.u64.wrap ((mid : Int) - 0) = (mid : Int) := by rw [Int.sub_zero]; exact IntWalk.u64_in _ ⟨by omega, by have := hmidH.out; omega⟩
    have hsub3 : IntKind.u64.wrap ((mid : Int)) = (mid : Int) := IntWalk.u64_in _ ⟨by omega, by have := hmidH.out; omega⟩
    have hsub4 : IntKind.u64.wrap ((hi : Int)) = (hi : Int) := IntWalk.u64_in _ ⟨by omega, by have := hhiH.out; omega⟩
    have hge : decide ((mid : Int) < 0) = false := by simp
    by_cases hm : 1 < mid
    · have hmb : decide ((1 : Int) < (mid : Int)) = true := by simp; omega
      rw [if_pos hm] at hfinH
      clear hor0 hm
      go_enter Tryz.func110, Tryz.ntmps110
      go_wp2_with fail
      refine hmulH.out.mono ?_
      rintro e w' ⟨rfl, rfl⟩
      go_wp2_with fail
      refine hmul0H.out.mono ?_
      rintro e w' ⟨rfl, rfl⟩
      go_wp2_with (go_at_call 126; refine (bool2_u64 _ _).mono ?_; rintro e w' ⟨rfl, rfl⟩)
      go_quiet ((go_at_call 126; exact Calls.quiet_of_same (bool2_u64 _ _)))
      go_wp2
      go_ret
      exact ⟨by rw [hfinH.out]; rfl, _, rfl⟩
    · have hmb : decide ((1 : Int) < (mid : Int)) = false := by simp; omega
      rw [if_neg hm] at hfinH
      clear hor1 hm
      go_enter Tryz.func110, Tryz.ntmps110
      go_wp2_with fail
      refine hmulH.out.mono ?_
      rintro e w' ⟨rfl, rfl⟩
      go_wp2_with fail
      refine hmul0H.out.mono ?_
      rintro e w' ⟨rfl, rfl⟩
      go_wp2_with (go_at_call 126; refine (bool2_u64 _ _).mono ?_; rintro e w' ⟨rfl, rfl⟩)
      go_quiet ((go_at_call 126; exact Calls.quiet_of_same (bool2_u64 _ _)))
      go_wp2
      go_ret
      exact ⟨by rw [hfinH.out, Nat.or_zero, ← div_cast]; rfl, _, rfl⟩
  · have ht : (IntKind.u64.wrap ((hi : Int) / 2 ^ s * 2 ^ s) != (hi : Int)) = true := by
      rw [hback, bne_iff_ne]; intro hc; apply hz; exact hmodiff.1 (by exact_mod_cast hc)
    have hfin : (uscG x H s : Nat) = hi / 2 ^ s ||| 1 := by rw [hu, if_pos hz]
    have hfinH := Lib.hid hfin
    clear hmul hmul0 hhi hmid hx hH hu hhi64 hmid64 hd64 hmodiff hfin hz hback
    have hs0 : (0 : Int) ≤ (s : Int) := by omega
    have hs1 : (s : Int) < 64 := by omega
    go_enter Tryz.func110, Tryz.ntmps110
    go_wp2_with fail
    refine hmulH.out.mono ?_
    rintro e w' ⟨rfl, rfl⟩
    go_wp2_with fail
    go_ret
    exact ⟨by rw [hfinH.out]; rfl, 0, rfl⟩

set_option maxHeartbeats 400000 in
/-- log10Pow2, at what is asked of it here: the place of a last digit, below nought. -/
theorem log10Pow2_neg (t : Nat) (w : World) (h : t ≤ 2000) : Calls Tryz.prog 97 #[.int .i64 (-(t : Int))] w fun e w' => e = .returned (.int .i64 (-(Fl.pB t : Int))) ∧ w' = w := by
  have hv : (-(t : Int) * 78913) / 262144 = -(Fl.pB t : Int) := by unfold Fl.pB; omega
  have hvH := Lib.hid hv
  clear hv
  go_enter Tryz.func97, Tryz.ntmps97
  go_wp2
  go_ret
  exact ⟨by rw [← hvH.out]; rfl, rfl⟩

set_option maxHeartbeats 400000 in
theorem skewed_neg (t : Nat) (w : World) (h : t ≤ 2000) : Calls Tryz.prog 107 #[.int .i64 (-(t : Int))] w fun e w' => e = .returned (.int .i64 (-(Fl.pA t : Int))) ∧ w' = w := by
  have hv : (-(t : Int) * 631305 - 261663) / 2097152 = -(Fl.pA t : Int) := by unfold Fl.pA; omega
  have hvH := Lib.hid hv
  clear hv
  go_enter Tryz.func107, Tryz.ntmps107
  go_wp2
  go_ret
  exact ⟨by rw [← hvH.out]; rfl, rfl⟩

set_option maxHeartbeats 400000 in
theorem log2Pow10_any (p : Nat) (w : World) (h : p ≤ 2000) : Calls Tryz.prog 109 #[.int .i64 (p : Int)] w fun e w' => e = .returned (.int .i64 (Fl.lp p : Int)) ∧ w' = w := by
  have hv : ((p : Int) * 108853) / 32768 = (Fl.lp p : Int) := by unfold Fl.lp; omega
  have hvH := Lib.hid hv
  clear hv
  go_enter Tryz.func109, Tryz.ntmps109
  go_wp2
  go_ret
  exact ⟨by rw [← hvH.out]; rfl, rfl⟩

set_option maxHeartbeats 400000 in
theorem nudge_up (u o : Nat) (w : World) (hu : u ≤ 1000000000000000000) (ho : o < 2) : Calls Tryz.prog 111 #[.int .u64 (u : Int), .int .i64 (o : Int)] w fun e w' => e = .returned (.int .u64 ((u + o : Nat) : Int)) ∧ w' = w := by
  have hc : IntKind.u64.wrap (o : Int) = (o : Int) := IntWalk.u64_in _ (by omega)
  go_enter Tryz.func111, Tryz.ntmps111
  go_wp2
  go_ret
  exact ⟨rfl, rfl⟩

set_option maxHeartbeats 400000 in
theorem nudge_down (u o : Nat) (w : World) (hu : u ≤ 1000000000000000000) (ho : o < 2) (h : o ≤ u) : Calls Tryz.prog 111 #[.int .u64 (u : Int), .int .i64 (-(o : Int))] w fun e w' => e = .returned (.int .u64 ((u - o : Nat) : Int)) ∧ w' = w := by
  have hv : IntKind.u64.wrap ((u : Int) + IntKind.u64.wrap (-(o : Int))) = ((u - o : Nat) : Int) := by simp only [IntKind.wrap_u64]; omega
  go_enter Tryz.func111, Tryz.ntmps111
  go_wp2
  go_ret
  exact ⟨rfl, rfl⟩

set_option maxHeartbeats 400000 in
theorem ceil_any (u : Nat) (w : World) (hu : u ≤ 2000000000000000000) : Calls Tryz.prog 112 #[.int .u64 (u : Int)] w fun e w' => e = .returned (.int .u64 (((u + 3) / 4 : Nat) : Int)) ∧ w' = w := by
  go_enter Tryz.func112, Tryz.ntmps112
  go_wp2
  go_ret
  exact ⟨rfl, rfl⟩

set_option maxHeartbeats 400000 in
theorem floor_any (u : Nat) (w : World) (hu : u ≤ 2000000000000000000) : Calls Tryz.prog 113 #[.int .u64 (u : Int)] w fun e w' => e = .returned (.int .u64 ((u / 4 : Nat) : Int)) ∧ w' = w := by
  go_enter Tryz.func113, Tryz.ntmps113
  go_wp2
  go_ret
  exact ⟨rfl, rfl⟩
end Go.Proofs.YtokmkkkanphihaaGreatRDoor
