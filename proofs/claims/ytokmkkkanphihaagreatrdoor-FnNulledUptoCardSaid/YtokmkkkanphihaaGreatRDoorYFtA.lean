/- The leaves of strconv's shortest form: log10Pow2, log2Pow10, skewed, nudge, floor, ceil, uscale, prescale. -/
import Derived.Test.YtokmkkkanphihaaGreatRDoorItoa
import Derived.Test.YtokmkkkanphihaaGreatRDoorFloat
import Derived.Laws.Bits64b
import Derived.Laws.BitsLemmas
import Derived.Lib.OwnBridge
namespace Go.Proofs.YtokmkkkanphihaaGreatRDoor
open Go.RowKit

set_option maxHeartbeats 400000 in
theorem bool2_u64 (b : Bool) (w : World) : Calls Tryz.prog 126 #[.bool b] w fun e w' => e = .returned (.int .u64 (if b then 1 else 0)) ∧ w' = w := by
  cases b
  · go_enter Tryz.func126, Tryz.ntmps126
    go_wp2
    go_ret
    exact ⟨rfl, rfl⟩
  · go_enter Tryz.func126, Tryz.ntmps126
    go_wp2
    go_ret
    exact ⟨rfl, rfl⟩

/-- What 'uscale' answers, at a table's low word of nought. -/
def uscG (x H s : Nat) : Nat :=
  let hi := x * H / 2 ^ 64
  let mid := x * H % 2 ^ 64
  if hi % 2 ^ s ≠ 0 then hi / 2 ^ s ||| 1 else hi / 2 ^ s ||| (if 1 < mid then 1 else 0)

theorem wrap_back {hi s : Nat} (h : hi < 2 ^ 64) : IntKind.u64.wrap ((hi : Int) / 2 ^ s * 2 ^ s) = ((hi / 2 ^ s * 2 ^ s : Nat) : Int) := by
  have h1 : hi / 2 ^ s * 2 ^ s ≤ hi := Nat.div_mul_le_self hi _
  have e : ((hi : Int) / 2 ^ s * 2 ^ s) = ((hi / 2 ^ s * 2 ^ s : Nat) : Int) := by push_cast; rfl
  rw [e]
  exact IntWalk.u64_in _ ⟨by omega, by omega⟩

theorem div_cast (hi s : Nat) : ((hi : Int) / 2 ^ s) = ((hi / 2 ^ s : Nat) : Int) := by push_cast; rfl

set_option maxHeartbeats 800000 in
set_option maxRecDepth 100000 in
theorem uscale_any (x H s : Nat) (c : Nat) (w : World) (hx : x < 18446744073709551616) (hH : H < 18446744073709551616) (hs : s < 64)
    (c0 : w.cell? ⟨c, 0, none⟩ = some (.int .u64 (H : Int))) (c1 : w.cell? ⟨c, 1, none⟩ = some (.int .u64 0)) (c2 : w.cell? ⟨c, 2, none⟩ = some (.int .i64 (s : Int))) :
    Calls Tryz.prog 110 #[.int .u64 (x : Int), .pointer (some ⟨c, 0, none⟩)] w fun e w' => e = .returned (.int .u64 (uscG x H s : Nat)) ∧ ∃ n, w' = w.drewN n := by
  have hmul := Tryz.bits_Mul64 x H hx hH w
  have hmul0 := Tryz.bits_Mul64 x 0 hx (by decide) w
  obtain ⟨hi, hhi⟩ : ∃ hi, hi = x * H / 18446744073709551616 := ⟨_, rfl⟩
  obtain ⟨mid, hmid⟩ : ∃ mid, mid = x * H % 18446744073709551616 := ⟨_, rfl⟩
  rw [← hhi, ← hmid] at hmul
  simp only [Nat.mul_zero, Nat.zero_div, Nat.zero_mod] at hmul0
  have hhi64 : hi < 2 ^ 64 := by
    rw [hhi]
    exact (Nat.div_lt_iff_lt_mul (by decide)).2 (Nat.mul_lt_mul_of_lt_of_lt hx hH)
  have hmid64 : mid < 2 ^ 64 := by rw [hmid]; exact Nat.mod_lt _ (by decide)
  have hu : uscG x H s = if hi % 2 ^ s ≠ 0 then hi / 2 ^ s ||| 1 else hi / 2 ^ s ||| (if 1 < mid then 1 else 0) := by
    rw [hhi, hmid]; rfl
  have hand : bits BinOp.and IntKind.i64 (s : Int) 63 = (s : Int) := by
    have : ∀ y : Fin 64, bits BinOp.and IntKind.i64 (y.val : Int) 63 = (y.val : Int) := by decide +kernel
    exact this ⟨s, hs⟩
  have hd64 : hi / 2 ^ s < 18446744073709551616 := Nat.lt_of_le_of_lt (Nat.div_le_self _ _) hhi64
  have hor1 : bits BinOp.or IntKind.u64 ((hi : Int) / 2 ^ s) 1 = ((hi / 2 ^ s ||| 1 : Nat) : Int) := by rw [div_cast]; exact bits_or_u64_nat _ 1 hd64 (by decide)
  have hor0 : bits BinOp.or IntKind.u64 ((hi : Int) / 2 ^ s) 0 = ((hi / 2 ^ s ||| 0 : Nat) : Int) := by rw [div_cast]; exact bits_or_u64_nat _ 0 hd64 (by decide)
  have hback := wrap_back (s := s) hhi64
  have hmodiff : hi / 2 ^ s * 2 ^ s = hi ↔ hi % 2 ^ s = 0 := by
    have := Nat.div_add_mod hi (2 ^ s)
    rw [Nat.mul_comm] at this
    omega
  have hmulH := Lib.hid hmul
  have hmul0H := Lib.hid hmul0
  have huH := Lib.hid hu
  have hhiH := Lib.hid hhi64
  have hmidH := Lib.hid hmid64
  by_cases hz : hi % 2 ^ s = 0
  · have ht : (IntKind.u64.wrap ((hi : Int) / 2 ^ s * 2 ^ s) != (hi : Int)) = false := by rw [hback, bne_eq_false_iff_eq]; exact_mod_cast hmodiff.2 hz
    have hfin : (uscG x H s : Nat) = hi / 2 ^ s ||| (if 1 < mid then 1 else 0) := by rw [hu, if_neg (by simpa using hz)]
    have hfinH := Lib.hid hfin
    clear hmul hmul0 hhi hmid hx hH hu hhi64 hmid64 hd64 hmodiff hfin hz hback
    have hs0 : (0 : Int) ≤ (s : Int) := by omega
    have hs1 : (s : Int) < 64 := by omega
    have hsub : IntKind.u64.wrap ((hi : Int) - 0) = (hi : Int) := by rw [Int.sub_zero]; exact IntWalk.u64_in _ ⟨by omega, by have := hhiH.out; omega⟩
    have hsub2 : IntKind.u64.wrap ((mid : Int) - 0) = (mid : Int) := by rw [Int.sub_zero]; exact IntWalk.u64_in _ ⟨by omega, by have := hmidH.out; omega⟩
    have hsub3 : IntKind.u64.wrap ((mid : Int)) = (mid : Int) := IntWalk.u64_in _ ⟨by omega, by have := hmidH.out; omega⟩
    have hsub4 : IntKind.u64.wrap ((hi : Int)) = (hi : Int) := IntWalk.u64_in _ ⟨by omega, by have := hhiH.out; omega⟩
    have hge : decide ((mid : Int) < 0) = false := by simp
    by_cases hm : 1 < mid
    · have hmb : decide ((1 : Int) < (mid : Int)) = true := by simp; omega
      rw [if_pos hm] at hfinH
      clear hor0 hm
      go_enter Tryz.func110, Tryz.ntmps110
      go_wp2_with fail
      refine hmulH.out.mono ?_
      rintro e w' ⟨rfl, rfl⟩
      go_wp2_with fail
      refine hmul0H.out.mono ?_
      rintro e w' ⟨rfl, rfl⟩
      go_wp2_with (go_at_call 126; refine (bool2_u64 _ _).mono ?_; rintro e w' ⟨rfl, rfl⟩)
      go_quiet ((go_at_call 126; exact Calls.quiet_of_same (bool2_u64 _ _)))
      go_wp2
      go_ret
      exact ⟨by rw [hfinH.out]; rfl, _, rfl⟩
    · have hmb : decide ((1 : Int) < (mid : Int)) = false := by simp; omega
      rw [if_neg hm] at hfinH
      clear hor1 hm
      go_enter Tryz.func110, Tryz.ntmps110
      go_wp2_with fail
      refine hmulH.out.mono ?_
      rintro e w' ⟨rfl, rfl⟩
      go_wp2_with fail
      refine hmul0H.out.mono ?_
      rintro e w' ⟨rfl, rfl⟩
      go_wp2_with (go_at_call 126; refine (bool2_u64 _ _).mono ?_; rintro e w' ⟨rfl, rfl⟩)
      go_quiet ((go_at_call 126; exact Calls.quiet_of_same (bool2_u64 _ _)))
      go_wp2
      go_ret
      exact ⟨by rw [hfinH.out, Nat.or_zero, ← div_cast]; rfl, _, rfl⟩
  · have ht : (IntKind.u64.wrap ((hi : Int) / 2 ^ s * 2 ^ s) != (hi : Int)) = true := by
      rw [hback, bne_iff_ne]; intro hc; apply hz; exact hmodiff.1 (by exact_mod_cast hc)
    have hfin : (uscG x H s : Nat) = hi / 2 ^ s ||| 1 := by rw [hu, if_pos hz]
    have hfinH := Lib.hid hfin
    clear hmul hmul0 hhi hmid hx hH hu hhi64 hmid64 hd64 hmodiff hfin hz hback
    have hs0 : (0 : Int) ≤ (s : Int) := by omega
    have hs1 : (s : Int) < 64 := by omega
    go_enter Tryz.func110, Tryz.ntmps110
    go_wp2_with fail
    refine hmulH.out.mono ?_
    rintro e w' ⟨rfl, rfl⟩
    go_wp2_with fail
    go_ret
    exact ⟨by rw [hfinH.out]; rfl, 0, rfl⟩

set_option maxHeartbeats 400000 in
/-- log10Pow2, at what is asked of it here: the place of a last digit, below nought. -/
theorem log10Pow2_neg (t : Nat) (w : World) (h : t ≤ 2000) : Calls Tryz.prog 97 #[.int .i64 (-(t : Int))] w fun e w' => e = .returned (.int .i64 (-(Fl.pB t : Int))) ∧ w' = w := by
  have hv : (-(t : Int) * 78913) / 262144 = -(Fl.pB t : Int) := by unfold Fl.pB; omega
  have hvH := Lib.hid hv
  clear hv
  go_enter Tryz.func97, Tryz.ntmps97
  go_wp2
  go_ret
  exact ⟨by rw [← hvH.out]; rfl, rfl⟩

set_option maxHeartbeats 400000 in
theorem skewed_neg (t : Nat) (w : World) (h : t ≤ 2000) : Calls Tryz.prog 107 #[.int .i64 (-(t : Int))] w fun e w' => e = .returned (.int .i64 (-(Fl.pA t : Int))) ∧ w' = w := by
  have hv : (-(t : Int) * 631305 - 261663) / 2097152 = -(Fl.pA t : Int) := by unfold Fl.pA; omega
  have hvH := Lib.hid hv
  clear hv
  go_enter Tryz.func107, Tryz.ntmps107
  go_wp2
  go_ret
  exact ⟨by rw [← hvH.out]; rfl, rfl⟩

set_option maxHeartbeats 400000 in
theorem log2Pow10_any (p : Nat) (w : World) (h : p ≤ 2000) : Calls Tryz.prog 109 #[.int .i64 (p : Int)] w fun e w' => e = .returned (.int .i64 (Fl.lp p : Int)) ∧ w' = w := by
  have hv : ((p : Int) * 108853) / 32768 = (Fl.lp p : Int) := by unfold Fl.lp; omega
  have hvH := Lib.hid hv
  clear hv
  go_enter Tryz.func109, Tryz.ntmps109
  go_wp2
  go_ret
  exact ⟨by rw [← hvH.out]; rfl, rfl⟩

set_option maxHeartbeats 400000 in
theorem nudge_up (u o : Nat) (w : World) (hu : u ≤ 1000000000000000000) (ho : o < 2) : Calls Tryz.prog 111 #[.int .u64 (u : Int), .int .i64 (o : Int)] w fun e w' => e = .returned (.int .u64 ((u + o : Nat) : Int)) ∧ w' = w := by
  have hc : IntKind.u64.wrap (o : Int) = (o : Int) := IntWalk.u64_in _ (by omega)
  go_enter Tryz.func111, Tryz.ntmps111
  go_wp2
  go_ret
  exact ⟨rfl, rfl⟩

set_option maxHeartbeats 400000 in
theorem nudge_down (u o : Nat) (w : World) (hu : u ≤ 1000000000000000000) (ho : o < 2) (h : o ≤ u) : Calls Tryz.prog 111 #[.int .u64 (u : Int), .int .i64 (-(o : Int))] w fun e w' => e = .returned (.int .u64 ((u - o : Nat) : Int)) ∧ w' = w := by
  have hv : IntKind.u64.wrap ((u : Int) + IntKind.u64.wrap (-(o : Int))) = ((u - o : Nat) : Int) := by simp only [IntKind.wrap_u64]; omega
  go_enter Tryz.func111, Tryz.ntmps111
  go_wp2
  go_ret
  exact ⟨rfl, rfl⟩

set_option maxHeartbeats 400000 in
theorem ceil_any (u : Nat) (w : World) (hu : u ≤ 2000000000000000000) : Calls Tryz.prog 112 #[.int .u64 (u : Int)] w fun e w' => e = .returned (.int .u64 (((u + 3) / 4 : Nat) : Int)) ∧ w' = w := by
  go_enter Tryz.func112, Tryz.ntmps112
  go_wp2
  go_ret
  exact ⟨rfl, rfl⟩

set_option maxHeartbeats 400000 in
theorem floor_any (u : Nat) (w : World) (hu : u ≤ 2000000000000000000) : Calls Tryz.prog 113 #[.int .u64 (u : Int)] w fun e w' => e = .returned (.int .u64 ((u / 4 : Nat) : Int)) ∧ w' = w := by
  go_enter Tryz.func113, Tryz.ntmps113
  go_wp2
  go_ret
  exact ⟨rfl, rfl⟩
end Go.Proofs.YtokmkkkanphihaaGreatRDoor

/- prescale: what is read of the table of powers of ten. -/
namespace Go.Proofs.YtokmkkkanphihaaGreatRDoor
open Go.RowKit

/-- What the table of powers of ten holds where it is asked here. -/
def PowAt (w : World) (p : Nat) : Prop := w.cell? ⟨2, (p + 348) * 2, none⟩ = some (.int .u64 (Fl.pm p : Nat)) ∧ w.cell? ⟨2, (p + 348) * 2 + 1, none⟩ = some (.int .u64 0)

set_option maxHeartbeats 800000 in
set_option maxRecDepth 100000 in
theorem prescale_any (c t p : Nat) (w : World) (hp : p ≤ 25) (ht : t ≤ 2000) (hlp : Fl.lp p ≤ t + 8) (htab : PowAt w p)
    (c0 : w.cell? ⟨c, 0, none⟩ = some (.int .u64 0)) (c1 : w.cell? ⟨c, 1, none⟩ = some (.int .u64 0)) (c2 : w.cell? ⟨c, 2, none⟩ = some (.int .i64 0))
    (f0 : w.frozen? ⟨c, 0, none⟩ = false) (f1 : w.frozen? ⟨c, 1, none⟩ = false) (f2 : w.frozen? ⟨c, 2, none⟩ = false) :
    Calls Tryz.prog 108 #[.pointer (some ⟨c, 0, none⟩), .int .i64 (-((t : Int) + 11)), .int .i64 (p : Int), .int .i64 (Fl.lp p : Int)] w fun e w' => e = .returned (.tuple #[]) ∧
      w' = ((w.setCell ⟨c, 0, none⟩ (.int .u64 (Fl.pm p : Nat))).setCell ⟨c, 1, none⟩ (.int .u64 0)).setCell ⟨c, 2, none⟩ (.int .i64 ((t + 8 - Fl.lp p : Nat) : Int)) := by
  obtain ⟨t0, t1⟩ := htab
  obtain ⟨l, hl⟩ : ∃ l, l = Fl.lp p := ⟨_, rfl⟩
  rw [← hl] at hlp ⊢
  obtain ⟨H, hH⟩ : ∃ H, H = Fl.pm p := ⟨_, rfl⟩
  rw [← hH] at t0 ⊢
  have hHH := Lib.hid hH
  have hlH := Lib.hid hl
  clear hH hl
  have hs : IntKind.i64.wrap (-(-((t : Int) + 11) + (l : Int) + 3)) = ((t + 8 - l : Nat) : Int) := by rw [IntKind.wrap_i64]; omega
  go_enter Tryz.func108, Tryz.ntmps108
  go_wp2
  go_end0
  exact ⟨rfl, rfl⟩

/-- Behind prescale: the scaler's three cells; what lay below it is as it was. -/
structure PreTo (w w' : World) (c H s : Nat) : Prop where
  c0 : w'.cell? ⟨c, 0, none⟩ = some (.int .u64 (H : Int))
  c1 : w'.cell? ⟨c, 1, none⟩ = some (.int .u64 0)
  c2 : w'.cell? ⟨c, 2, none⟩ = some (.int .i64 (s : Int))
  below : Below c w w'

theorem PreTo.drewN {w w' : World} {c H s : Nat} (h : PreTo w w' c H s) (n : Nat) : PreTo w (w'.drewN n) c H s :=
  ⟨by simpa using h.c0, by simpa using h.c1, by simpa using h.c2, below_drewN h.below n⟩

/-- prescale over a scaler that has just been made. -/
theorem prescale_new (t p : Nat) (w : World) (hp : p ≤ 25) (ht : t ≤ 2000) (hlp : Fl.lp p ≤ t + 8) (htab : PowAt w p) :
    Calls Tryz.prog 108 #[.pointer (some ⟨w.heap.size, 0, none⟩), .int .i64 (-((t : Int) + 11)), .int .i64 (p : Int), .int .i64 (Fl.lp p : Int)] (w.alloc (.cells #[.int .u64 0, .int .u64 0, .int .i64 0] 168)) fun e w' => e = .returned (.tuple #[]) ∧
      PreTo w w' w.heap.size (Fl.pm p) (t + 8 - Fl.lp p) := by
  have hg : 2 < w.heap.size := World.block_lt_of_cell? w _ htab.1
  have htab' : PowAt (w.alloc (.cells #[.int .u64 0, .int .u64 0, .int .i64 0] 168)) p := by
    refine ⟨?_, ?_⟩
    · rw [World.cell?_alloc_past _ _ _ hg]; exact htab.1
    · rw [World.cell?_alloc_past _ _ _ hg]; exact htab.2
  refine (prescale_any w.heap.size t p _ hp ht hlp htab' ?_ ?_ ?_ ?_ ?_ ?_).mono ?_
  · rw [World.cell?_alloc_new]; rfl
  · rw [World.cell?_alloc_new]; rfl
  · rw [World.cell?_alloc_new]; rfl
  · exact World.frozen?_alloc_new _ _ _ _
  · exact World.frozen?_alloc_new _ _ _ _
  · exact World.frozen?_alloc_new _ _ _ _
  · rintro e w' ⟨rfl, rfl⟩
    refine ⟨rfl, ?_⟩
    have hb : ((((w.alloc (.cells #[.int .u64 0, .int .u64 0, .int .i64 0] 168)).setCell ⟨w.heap.size, 0, none⟩ (.int .u64 (Fl.pm p : Nat))).setCell ⟨w.heap.size, 1, none⟩ (.int .u64 0)).setCell ⟨w.heap.size, 2, none⟩ (.int .i64 ((t + 8 - Fl.lp p : Nat) : Int))).heap[w.heap.size]? = some (.cells #[.int .u64 (Fl.pm p : Nat), .int .u64 0, .int .i64 ((t + 8 - Fl.lp p : Nat) : Int)] 168 (0, 0)) := by
      simp only [World.setCell, Array.getElem?_modify, if_pos]
      rw [heap_alloc_new w _]
      rfl
    refine ⟨?_, ?_, ?_, ?_⟩
    · simp only [World.cell?, hb]; rfl
    · simp only [World.cell?, hb]; rfl
    · simp only [World.cell?, hb]; rfl
    · exact ((((Below.refl _ _).alloc (Nat.le_refl _) _).setCell (Nat.le_refl _) _).setCell (Nat.le_refl _) _).setCell (Nat.le_refl _) _
end Go.Proofs.YtokmkkkanphihaaGreatRDoor

/- shortFloat[float64], where the shortest decimal is found. -/
namespace Go.Proofs.YtokmkkkanphihaaGreatRDoor
open Go.RowKit

theorem l10_at (x : Int) (t p : Nat) (w : World) (hx : x = -(t : Int)) (hp : p = Fl.pB t) (h : t ≤ 2000) : Calls Tryz.prog 97 #[.int .i64 x] w fun e w' => e = .returned (.int .i64 (-(p : Int))) ∧ w' = w := by
  subst hx hp
  exact log10Pow2_neg t w h

theorem sk_at (x : Int) (t p : Nat) (w : World) (hx : x = -(t : Int)) (hp : p = Fl.pA t) (h : t ≤ 2000) : Calls Tryz.prog 107 #[.int .i64 x] w fun e w' => e = .returned (.int .i64 (-(p : Int))) ∧ w' = w := by
  subst hx hp
  exact skewed_neg t w h

theorem usc_at (v : Int) (x H s u c : Nat) (w w0 : World) (hv : v = (x : Int)) (hx : x < 18446744073709551616) (hH : H < 18446744073709551616) (hs : s < 64) (hu : uscG x H s = u)
    (hP : PreTo w0 w c H s) :
    Calls Tryz.prog 110 #[.int .u64 v, .pointer (some ⟨c, 0, none⟩)] w fun e w' => e = .returned (.int .u64 (u : Int)) ∧ ∃ n, w' = w.drewN n := by
  subst hv hu
  exact uscale_any x H s c w hx hH hs hP.c0 hP.c1 hP.c2

theorem nud_at (v : Int) (u o : Nat) (w : World) (hv : v = -(o : Int)) (hu : u ≤ 1000000000000000000) (ho : o < 2) (h : o ≤ u) : Calls Tryz.prog 111 #[.int .u64 (u : Int), .int .i64 v] w fun e w' => e = .returned (.int .u64 ((u - o : Nat) : Int)) ∧ w' = w := by
  subst hv
  exact nudge_down u o w hu ho h

theorem ceil_at (v : Int) (u d : Nat) (w : World) (hv : v = (u : Int)) (hu : u ≤ 2000000000000000000) (hd : (u + 3) / 4 = d) : Calls Tryz.prog 112 #[.int .u64 v] w fun e w' => e = .returned (.int .u64 (d : Int)) ∧ w' = w := by
  subst hd hv
  exact ceil_any u w hu

theorem floor_at (v : Int) (u d : Nat) (w : World) (hv : v = (u : Int)) (hu : u ≤ 2000000000000000000) (hd : u / 4 = d) : Calls Tryz.prog 113 #[.int .u64 v] w fun e w' => e = .returned (.int .u64 (d : Int)) ∧ w' = w := by
  subst hd hv
  exact floor_any u w hu

set_option maxHeartbeats 1600000 in
set_option maxRecDepth 100000 in
theorem shortFloat_plain (x t p o D u1 u2 : Nat) (w : World) (hx : 9223372036854775808 < x) (hx2 : x < 18446744073709549569) (ho : o < 2)
    (hodd : bits BinOp.and IntKind.i64 ((x : Int) / 2048) 1 = (o : Int)) (ht2 : 2 ≤ t) (ht : t < 83) (hp : p = Fl.pB t) (htab : PowAt w p)
    (hu1 : uscG (x - 1024) (Fl.pm p) (t + 8 - Fl.lp p) = u1) (hu2 : uscG (x + 1024) (Fl.pm p) (t + 8 - Fl.lp p) = u2)
    (hb1 : u1 ≤ 1000000000000000000) (hb2 : u2 ≤ 1000000000000000000)
    (h1 : (u1 + o + 3) / 4 ≤ 10 * D) (h2 : o ≤ u2) (h3 : 10 * D ≤ (u2 - o) / 4) (h4 : (u2 - o) / 4 < 10 * D + 10) :
    Calls Tryz.prog 102 #[.int .u64 (x : Int), .int .i64 (-((t : Int) + 11))] w fun e w' => e = .returned (.tuple #[.int .u64 (D : Int), .int .i64 (-((p : Int) - 1))]) ∧
      Below w.heap.size w w' := by
  obtain ⟨hok, -, -⟩ := Fl.okB t ht ht2
  rw [← hp] at hok
  obtain ⟨k1, k2, k3, k4, k5, k6, k7, k8⟩ := Fl.okT_spec hok
  have hpre := prescale_new t p w k2 (by omega) k3 htab
  have hH : Fl.pm p < 18446744073709551616 := k6
  obtain ⟨s, hs⟩ : ∃ s, s = t + 8 - Fl.lp p := ⟨_, rfl⟩
  rw [← hs] at hpre hu1 hu2 k4
  obtain ⟨H, hHH⟩ : ∃ H, H = Fl.pm p := ⟨_, rfl⟩
  rw [← hHH] at hpre hu1 hu2 hH
  have hpreH := Lib.hid hpre
  have hu1H := Lib.hid hu1
  have hu2H := Lib.hid hu2
  have hHH2 := Lib.hid hH
  have hpH := Lib.hid hp
  have hdiv : ((u2 - o) / 4) / 10 = D := by omega
  have hdivH := Lib.hid hdiv
  have h1H := Lib.hid h1
  have h3H := Lib.hid h3
  have h4H := Lib.hid h4
  have hb1H := Lib.hid hb1
  have hb2H := Lib.hid hb2
  have k2H := Lib.hid k2
  have k4H := Lib.hid k4
  have hneq : ((x : Int) == 9223372036854775808) = false := by rw [beq_eq_false_iff_ne]; omega
  clear hpre hu1 hu2 hH hp hok k5 k6 k7 k8 hHH hs k3 hdiv h1 h3 h4 hb1 hb2 k4 htab
  go_enter Tryz.func102, Tryz.ntmps102
  go_wp2_with fail
  refine (l10_at _ t p _ (by omega) hpH.out (by omega)).mono ?_
  rintro e w' ⟨rfl, rfl⟩
  go_wp2_with fail
  refine (log2Pow10_any p _ (by omega)).mono ?_
  rintro e w' ⟨rfl, rfl⟩
  go_wp2_with fail
  refine hpreH.out.mono ?_
  rintro e w' ⟨rfl, hP⟩
  go_wp2_with fail
  refine (usc_at _ (x - 1024) H s u1 _ _ _ (by omega) (by omega) hHH2.out k4H.out hu1H.out hP).mono ?_
  rintro e w1 ⟨rfl, n1, rfl⟩
  go_wp2_with fail
  refine (nudge_up u1 o _ hb1H.out ho).mono ?_
  rintro e w1 ⟨rfl, rfl⟩
  go_wp2_with fail
  obtain ⟨dmn, hdmn⟩ : ∃ d, (u1 + o + 3) / 4 = d := ⟨_, rfl⟩
  refine (ceil_at _ (u1 + o) dmn _ (by push_cast; rfl) (by have := hb1H.out; omega) hdmn).mono ?_
  rintro e w1 ⟨rfl, rfl⟩
  go_wp2_with fail
  refine (usc_at _ (x + 1024) H s u2 _ _ _ (by omega) (by omega) hHH2.out k4H.out hu2H.out (hP.drewN _)).mono ?_
  rintro e w1 ⟨rfl, n2, rfl⟩
  go_wp2_with fail
  refine (nud_at _ u2 o _ (by omega) hb2H.out ho h2).mono ?_
  rintro e w1 ⟨rfl, rfl⟩
  go_wp2_with fail
  obtain ⟨dmx, hdmx⟩ : ∃ d, (u2 - o) / 4 = d := ⟨_, rfl⟩
  refine (floor_at _ (u2 - o) dmx _ (by omega) (by have := hb2H.out; omega) hdmx).mono ?_
  rintro e w1 ⟨rfl, rfl⟩
  have hd1 : (dmx : Int) / 10 = (D : Int) := by have := hdivH.out; omega
  have hd2 : dmn ≤ 10 * D := by have := h1H.out; omega
  have hd3 : D < 1000000000000000000 := by have := h3H.out; have := hb2H.out; omega
  clear hdmx hdmn hx hx2 hodd hneq ht2 ht h2
  go_wp2_with fail
  go_ret2
  exact ⟨rfl, below_drewN hP.below _⟩
set_option maxHeartbeats 1600000 in
set_option maxRecDepth 100000 in
theorem shortFloat_pow (t p D u1 u2 : Nat) (w : World) (ht2 : 2 ≤ t) (ht : t < 83) (hp : p = Fl.pA t) (htab : PowAt w p)
    (hu1 : uscG (9223372036854775296) (Fl.pm p) (t + 8 - Fl.lp p) = u1) (hu2 : uscG (9223372036854776832) (Fl.pm p) (t + 8 - Fl.lp p) = u2)
    (hb1 : u1 ≤ 1000000000000000000) (hb2 : u2 ≤ 1000000000000000000)
    (h1 : (u1 + 3) / 4 ≤ 10 * D) (h3 : 10 * D ≤ (u2) / 4) (h4 : (u2) / 4 < 10 * D + 10) :
    Calls Tryz.prog 102 #[.int .u64 9223372036854775808, .int .i64 (-((t : Int) + 11))] w fun e w' => e = .returned (.tuple #[.int .u64 (D : Int), .int .i64 (-((p : Int) - 1))]) ∧
      Below w.heap.size w w' := by
  obtain ⟨hok, -, -⟩ := Fl.okA t ht ht2
  rw [← hp] at hok
  obtain ⟨k1, k2, k3, k4, k5, k6, k7, k8⟩ := Fl.okT_spec hok
  have hpre := prescale_new t p w k2 (by omega) k3 htab
  have hH : Fl.pm p < 18446744073709551616 := k6
  obtain ⟨s, hs⟩ : ∃ s, s = t + 8 - Fl.lp p := ⟨_, rfl⟩
  rw [← hs] at hpre hu1 hu2 k4
  obtain ⟨H, hHH⟩ : ∃ H, H = Fl.pm p := ⟨_, rfl⟩
  rw [← hHH] at hpre hu1 hu2 hH
  have hpreH := Lib.hid hpre
  have hu1H := Lib.hid hu1
  have hu2H := Lib.hid hu2
  have hHH2 := Lib.hid hH
  have hpH := Lib.hid hp
  have hdiv : ((u2) / 4) / 10 = D := by omega
  have hdivH := Lib.hid hdiv
  have h1H := Lib.hid h1
  have h3H := Lib.hid h3
  have h4H := Lib.hid h4
  have hb1H := Lib.hid hb1
  have hb2H := Lib.hid hb2
  have k2H := Lib.hid k2
  have k4H := Lib.hid k4
  clear hpre hu1 hu2 hH hp hok k5 k6 k7 k8 hHH hs k3 hdiv h1 h3 h4 hb1 hb2 k4 htab
  go_enter Tryz.func102, Tryz.ntmps102
  go_wp2_with fail
  refine (sk_at _ t p _ (by omega) hpH.out (by omega)).mono ?_
  rintro e w' ⟨rfl, rfl⟩
  go_wp2_with fail
  refine (log2Pow10_any p _ (by omega)).mono ?_
  rintro e w' ⟨rfl, rfl⟩
  go_wp2_with fail
  refine hpreH.out.mono ?_
  rintro e w' ⟨rfl, hP⟩
  go_wp2_with fail
  refine (usc_at _ (9223372036854775296) H s u1 _ _ _ (by omega) (by omega) hHH2.out k4H.out hu1H.out hP).mono ?_
  rintro e w1 ⟨rfl, n1, rfl⟩
  go_wp2_with fail
  refine (nudge_up u1 0 _ hb1H.out (by omega)).mono ?_
  rintro e w1 ⟨rfl, rfl⟩
  go_wp2_with fail
  obtain ⟨dmn, hdmn⟩ : ∃ d, (u1 + 3) / 4 = d := ⟨_, rfl⟩
  refine (ceil_at _ (u1) dmn _ (by omega) (by have := hb1H.out; omega) hdmn).mono ?_
  rintro e w1 ⟨rfl, rfl⟩
  go_wp2_with fail
  refine (usc_at _ (9223372036854776832) H s u2 _ _ _ (by omega) (by omega) hHH2.out k4H.out hu2H.out (hP.drewN _)).mono ?_
  rintro e w1 ⟨rfl, n2, rfl⟩
  go_wp2_with fail
  refine (nud_at _ u2 0 _ (by decide +kernel) hb2H.out (by omega) (by omega)).mono ?_
  rintro e w1 ⟨rfl, rfl⟩
  go_wp2_with fail
  obtain ⟨dmx, hdmx⟩ : ∃ d, (u2) / 4 = d := ⟨_, rfl⟩
  refine (floor_at _ (u2) dmx _ (by omega) (by have := hb2H.out; omega) hdmx).mono ?_
  rintro e w1 ⟨rfl, rfl⟩
  have hd1 : (dmx : Int) / 10 = (D : Int) := by have := hdivH.out; omega
  have hd2 : dmn ≤ 10 * D := by have := h1H.out; omega
  have hd3 : D < 1000000000000000000 := by have := h3H.out; have := hb2H.out; omega
  clear hdmx hdmn ht2 ht
  go_wp2_with fail
  go_ret2
  exact ⟨rfl, below_drewN hP.below _⟩
end Go.Proofs.YtokmkkkanphihaaGreatRDoor

/- setDigits: a numeral, without the noughts at its end. -/
namespace Go.Proofs.YtokmkkkanphihaaGreatRDoor
open Go.RowKit Go.Sort

/-- Behind setDigits: the digits stand in the buffer; what lay below it is as it was. -/
structure DigTo (w w' : World) (blk : Nat) (ds : List UInt8) : Prop where
  cells : ∀ j (h : j < ds.length), w'.cell? ⟨blk, j, none⟩ = some (.int .u8 (ds[j].toNat : Int))
  below : Below blk w w'

theorem DigTo.drewN {w w' : World} {blk : Nat} {ds : List UInt8} (h : DigTo w w' blk ds) (n : Nat) : DigTo w (w'.drewN n) blk ds :=
  ⟨fun j hj => by rw [World.cell?_drewN]; exact h.cells j hj, below_drewN h.below n⟩

set_option maxHeartbeats 1600000 in
set_option maxRecDepth 100000 in
theorem setDigits_any (blk u z L n : Nat) (p : Int) (ds : List UInt8) (w : World) (hL : L = ds.length) (hL0 : 0 < L) (hn : n = L + z) (hn32 : n ≤ 32) (hu64 : u < 18446744073709551616)
    (hds : Lib.decDigits u = ds ++ List.replicate z 48) (hlast : ds[L - 1]? ≠ some 48) (hp0 : -1000000 ≤ p) (hp1 : p ≤ 1000000)
    (hrow : Holds (fun (b : UInt8) => Value.int .u8 (b.toNat : Int)) w blk 0 (Array.replicate n 0)) :
    Calls Tryz.prog 96 #[.slice (some ⟨blk, 0, none⟩) 32 32, .int .u64 (u : Int), .int .i64 p, .int .i64 (n : Int)] w fun e w' => e = .returned (.tuple #[.int .i64 ((n : Int) + p), .int .i64 (L : Int)]) ∧ DigTo w w' blk ds := by
  have hlen : (Lib.decDigits u).length = n := by rw [hds, hn, hL]; simp
  have hnd : Lib.nDigits u = n := by rw [← hlen, Lib.decDigits_length]
  have hfmt := Tryz.internal_strconv_formatBase10 blk 0 32 u (Array.replicate n 0) w hrow (by rw [Array.size_replicate, ← hnd]; exact Lib.lt_pow_nDigits u) hu64 (by rw [Array.size_replicate]; omega)
  rw [Array.size_replicate] at hfmt
  have hfmt2 : Calls Tryz.prog 87 #[.slice (some ⟨blk, 0, none⟩) n 32, .int .u64 u] w fun e w' => e = .returned (.tuple #[]) ∧ DigTo w w' blk (Lib.decDigits u) := by
    refine hfmt.mono ?_
    rintro e w' ⟨rfl, k, v', dk, rfl, hF⟩
    rw [← hnd] at hF
    refine ⟨rfl, ?_, ?_⟩
    · intro j hj
      rw [Lib.row_is_numeral hF j hj, World.cell?_drewN]
      have h5 := cell?_putRow (fun (b : UInt8) => Value.int .u8 (b.toNat : Int)) w blk 0 _ dk hrow (by rw [hF.size, Array.size_replicate, hnd]) j (by rw [hF.size, hnd, ← hlen]; exact hj)
      simpa using h5
    · refine below_drewN ?_ k
      have h5 := Lib.below_putRow (enc := fun (b : UInt8) => Value.int .u8 (b.toNat : Int)) (q := 0) (d := dk) (Below.refl blk w) (Nat.le_refl blk)
      rw [ahead_zero] at h5
      exact h5
  obtain ⟨f, hf⟩ : ∃ f : Nat → UInt8, ∀ j, f j = (Lib.decDigits u)[j]! := ⟨fun j => (Lib.decDigits u)[j]!, fun _ => rfl⟩
  have hcell : ∀ W, DigTo w W blk (Lib.decDigits u) → ∀ j, j < n → W.cell? ⟨blk, j, none⟩ = some (.int .u8 ((f j).toNat : Int)) := by
    intro W hW j hj
    rw [hf, hW.cells j (by rw [hlen]; exact hj), getElem!_pos (Lib.decDigits u) j]
  have hz : ∀ j, L ≤ j → j < n → f j = 48 := by
    intro j h1 h2
    rw [hf, getElem!_pos (Lib.decDigits u) j (by rw [hlen]; exact h2)]
    simp only [hds]
    rw [List.getElem_append_right (by omega)]
    simp
  have hnz : (((f (L - 1)).toNat : Int) == 48) = false := by
    rw [beq_eq_false_iff_ne]
    intro hc
    apply hlast
    have h1 : L - 1 < (Lib.decDigits u).length := by rw [hlen]; omega
    rw [hf, getElem!_pos (Lib.decDigits u) (L - 1) h1] at hc
    have h2 : (Lib.decDigits u)[L - 1] = 48 := UInt8.toNat_inj.1 (by show _ = 48; omega)
    simp only [hds] at h2
    rw [List.getElem_append_left (by omega)] at h2
    rw [List.getElem?_eq_getElem (by omega), h2]
  have hdsl : ∀ W, DigTo w W blk (Lib.decDigits u) → DigTo w W blk ds := by
    intro W hW
    refine ⟨fun j hj => ?_, hW.below⟩
    rw [hW.cells j (by rw [hlen]; omega)]
    simp only [hds]
    rw [List.getElem_append_left hj]
  have hfmtH := Lib.hid hfmt2
  have hcellH := Lib.hid hcell
  have hzH := Lib.hid hz
  have hdslH := Lib.hid hdsl
  clear hf
  generalize Lib.decDigits u = ds' at *
  clear hfmt hfmt2 hcell hz hdsl hlen hnd hrow hlast hds hL
  subst hn
  go_enter Tryz.func96, Tryz.ntmps96
  go_wp2_with (go_at_call 87; refine hfmtH.out.mono ?_; rintro e w' ⟨rfl, hD⟩)
  go_loopw [3] (fun i wr => ∃ q : Nat, q ≤ z ∧ i = .int .i64 ((L : Int) + q) ∧ DigTo w wr blk ds') (fun i _ => (intOf i).toNat)
  case atStart => exact ⟨z, Nat.le_refl _, rfl, hD⟩
  case round =>
    obtain ⟨q, hq, rfl, hE⟩ := hrel
    have hoff : ((L : Int) + q - 1).toNat = L + q - 1 := by omega
    have hc := hcellH.out _ hE (L + q - 1) (by omega)
    rcases Nat.eq_zero_or_pos q with h0 | h0
    · subst h0
      rw [Nat.add_zero] at hc hoff
      go_wp2
      go_ret2
      exact ⟨by simp, hdslH.out _ hE⟩
    · rw [hzH.out (L + q - 1) (by omega) (by omega)] at hc
      go_wp2
      go_roundw
      case rel => exact ⟨q - 1, by omega, by go_num, hE⟩
      case measure => simp [intOf]; omega
end Go.Proofs.YtokmkkkanphihaaGreatRDoor
