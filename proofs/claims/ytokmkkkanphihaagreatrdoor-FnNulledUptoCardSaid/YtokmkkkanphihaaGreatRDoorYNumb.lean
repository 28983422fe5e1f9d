/- spec.isWhole, spec.Int: what they say of the text of a whole number. -/
import Derived.Test.YtokmkkkanphihaaGreatRDoorYRda
import Derived.Test.YtokmkkkanphihaaGreatRDoorYGuard
namespace Go.Proofs.YtokmkkkanphihaaGreatRDoor
open Go.RowKit Go.Sort

set_option maxHeartbeats 1600000 in
set_option maxRecDepth 100000 in
theorem isWhole_yes {t : ByteArray} (ht : ∀ j (h : j < t.size), t[j] = 45 ∨ isD t[j]) (hs : t.size ≤ lim) (w : World) :
    Calls Tryz.prog 66 #[.string t] w fun e w' => e = .returned (.bool true) ∧ w' = w := by
  have hs' : t.size ≤ 1099511627776 := hs
  have htH := Lib.hid ht
  clear ht hs
  go_enter Tryz.func66, Tryz.ntmps66
  go_wp2_with fail
  go_loopg [7] (t.size) (fun k i wr => ∃ j : Nat, j ≤ t.size ∧ k = t.size - j ∧ i = .int .i64 j ∧ wr = w)
  case atStart => exact ⟨0, Nat.zero_le _, rfl, rfl, rfl⟩
  case round =>
    obtain ⟨j, hj, hk, rfl, rfl⟩ := hrel
    by_cases hlt : j < t.size
    · rcases htH.out j hlt with hc | hc
      · have hn : Hid (¬ isD 45) := Lib.hid (no_digit (.inl rfl))
        have h45 : (t[j].toNat : Int) = 45 := toInt_of hc
        clear hc
        go_wp2_with (go_at_call 67; refine (isDigit_no (c := 45) rfl hn.out).mono ?_; rintro e w3 ⟨rfl, rfl⟩)
        go_roundg (t.size - (j + 1))
        case measure => omega
        case rel => exact ⟨j + 1, by omega, rfl, by go_num, rfl⟩
      · have hcH := Lib.hid hc
        clear hc
        go_wp2_with (go_at_call 67; refine (isDigit_yes rfl hcH.out).mono ?_; rintro e w3 ⟨rfl, rfl⟩)
        go_roundg (t.size - (j + 1))
        case measure => omega
        case rel => exact ⟨j + 1, by omega, rfl, by go_num, rfl⟩
    · have hje : j = t.size := by omega
      subst hje
      go_wp2_with fail
      go_ret
      exact ⟨rfl, rfl⟩

theorem fs_next {t : ByteArray} {j : Nat} (h : j < t.size) : Fl.fsOf (t.data.toList.take (j + 1)) = Fl.fstep (Fl.fsOf (t.data.toList.take j)) t[j] := by
  have e : t.data.toList.take (j + 1) = t.data.toList.take j ++ [t[j]] := take_snoc t j h
  rw [e, Fl.fsOf_snoc]

set_option maxHeartbeats 1600000 in
set_option maxRecDepth 100000 in
theorem Int_walk {t : ByteArray} {N : Nat} {mi : Bool} {i : Int} (hs0 : 0 < t.size) (hs : t.size ≤ 30) (ht : ∀ j (h : j < t.size), t[j] = 45 ∨ isD t[j]) (hmi : ((t[0].toNat : Int) == 45) = mi) (hN : (Fl.fsOf t.data.toList).n = N) (hN63 : N ≤ 9223372036854775808)
    (hpos : mi = false → N < 9223372036854775808 ∧ i = N) (hneg : mi = true → i = -(N : Int)) (w : World) :
    Calls Tryz.prog 38 #[.string t] w fun e w' => e = .returned (.tuple #[.int .i64 i, .bool true]) ∧ ∃ n, w' = w.drewN n := by
  have hle : ∀ j, (Fl.fsOf (t.data.toList.take j)).n ≤ N := fun j => by rw [← hN]; exact Fl.fsOf_take _ j
  have hstep : ∀ (j : Nat) (h : j < t.size), Fl.fsOf (t.data.toList.take (j + 1)) = Fl.fstep (Fl.fsOf (t.data.toList.take j)) t[j] := fun j h => fs_next h
  have hwh := isWhole_yes ht (Nat.le_trans hs (by decide)) w
  have hleH := Lib.hid hle
  have htH := Lib.hid ht
  have hstepH := Lib.hid hstep
  have hwhH := Lib.hid hwh
  have hNH := Lib.hid hN
  have hposH := Lib.hid hpos
  have hnegH := Lib.hid hneg
  clear hle ht hstep hwh hN hpos hneg
  go_enter Tryz.func38, Tryz.ntmps38
  go_wp2_with (go_at_call 66; refine hwhH.out.mono ?_; rintro e w1 ⟨rfl, rfl⟩)
  go_quiet (fail)
  go_wp2_with fail
  go_loopg [4, 16] (t.size) (fun k n i wr => ∃ j : Nat, j ≤ t.size ∧ k = t.size - j ∧ i = .int .i64 j ∧ n = .int .u64 ((Fl.fsOf (t.data.toList.take j)).n : Nat) ∧ ∃ m, wr = w1.drewN m)
  case atStart => exact ⟨0, Nat.zero_le _, rfl, rfl, rfl, _, rfl⟩
  case round =>
    obtain ⟨j, hj, hk, rfl, rfl, m, rfl⟩ := hrel
    have hnj := hleH.out j
    by_cases hlt : j < t.size
    · have hst := Lib.hid (hstepH.out j hlt)
      have hnj1 := hleH.out (j + 1)
      rcases htH.out j hlt with hc | hc
      · have h45 : (t[j].toNat : Int) = 45 := toInt_of hc
        have hnext : Hid ((Fl.fsOf (t.data.toList.take (j + 1))).n = (Fl.fsOf (t.data.toList.take j)).n) := Lib.hid (by rw [hst.out, hc]; rfl)
        clear hc hnj1
        go_wp2_with fail
        go_roundg (t.size - (j + 1))
        case measure => omega
        case rel => exact ⟨j + 1, by omega, rfl, by go_num, by rw [hnext.out], _, rfl⟩
      · obtain ⟨d, hd⟩ : ∃ d : Nat, t[j].toNat = 48 + d := ⟨t[j].toNat - 48, by unfold isD at hc; omega⟩
        have hd9 : d ≤ 9 := by unfold isD at hc; omega
        have hdi : (t[j].toNat : Int) = 48 + (d : Int) := by omega
        have hn45 : t[j] ≠ 45 := by intro e; rw [e] at hd; simp at hd; omega
        have hn46 : t[j] ≠ 46 := by intro e; rw [e] at hd; simp at hd; omega
        have hnx : (Fl.fsOf (t.data.toList.take (j + 1))).n = (Fl.fsOf (t.data.toList.take j)).n * 10 + d := by
          rw [hst.out]
          unfold Fl.fstep
          rw [if_neg hn45, if_neg hn46]
          show _ * 10 + (t[j].toNat - 48) = _
          rw [hd, Nat.add_sub_cancel_left]
        rw [hnx] at hnj1
        have hnxH := Lib.hid hnx
        clear hnx hn45 hn46 hd hc hst
        generalize (Fl.fsOf (t.data.toList.take j)).n = nn at *
        have hb45 : ((48 : Int) + (d : Int) == 45) = false := by rw [beq_eq_false_iff_ne]; omega
        have hq : ¬ (((9223372036854775808 : Int) - (d : Int)) / 10 < (nn : Int)) := by omega
        go_wp2_with fail
        go_roundg (t.size - (j + 1))
        case measure => omega
        case rel => exact ⟨j + 1, by omega, rfl, by go_num, by rw [hnxH.out]; go_num, _, rfl⟩
    · have hje : j = t.size := by omega
      subst hje
      have hall : (Fl.fsOf (t.data.toList.take t.size)).n = N := by
        rw [← hNH.out, List.take_of_length_le (show t.data.toList.length ≤ t.size from Nat.le_refl _)]
      rw [hall]
      clear hall hnj
      cases mi with
      | false =>
        obtain ⟨hp1, hp2⟩ := hposH.out rfl
        have hNi : (N : Int) < 9223372036854775808 := by omega
        have hb63 : ((N : Int) == 9223372036854775808) = false := by rw [beq_eq_false_iff_ne]; omega
        have hp2H := Lib.hid hp2
        clear hp2
        go_wp2_with fail
        go_ret2
        exact ⟨by rw [hp2H.out]; rfl, _, rfl⟩
      | true =>
        have hp2H := Lib.hid (hnegH.out rfl)
        by_cases h63 : N = 9223372036854775808
        · subst h63
          go_wp2_with fail
          have hw63 : wrap64 (-wrap64 9223372036854775808) = -((9223372036854775808 : Nat) : Int) := by first | decide +kernel | rfl | (unfold wrap64; omega) | (simp [wrap64])
          rw [hw63]
          go_ret2
          exact ⟨by rw [hp2H.out]; rfl, _, rfl⟩
        · have hNi : (N : Int) < 9223372036854775808 := by omega
          go_wp2_with fail
          go_ret2
          exact ⟨by rw [hp2H.out]; rfl, _, rfl⟩

/-- The text of a whole number tells it. -/
theorem Int_any {i : Int} (h0 : -9223372036854775808 ≤ i) (h1 : i ≤ 9223372036854775807) (w : World) :
    Calls Tryz.prog 38 #[.string ⟨(Lib.itoa i).toArray⟩] w fun e w' => e = .returned (.tuple #[.int .i64 i, .bool true]) ∧ ∃ n, w' = w.drewN n := by
  have hsz : (⟨(Lib.itoa i).toArray⟩ : ByteArray).size = (Lib.itoa i).length := rfl
  have hlen := itoa_len h0 h1
  obtain ⟨c, X, hcX, hc⟩ := (NumTxt_itoa i).head
  have hpos : 0 < (Lib.itoa i).length := by rw [hcX]; simp
  have hget : ∀ j (h : j < (⟨(Lib.itoa i).toArray⟩ : ByteArray).size), (⟨(Lib.itoa i).toArray⟩ : ByteArray)[j] = (Lib.itoa i)[j]'h := fun j h => rfl
  have hhead : (⟨(Lib.itoa i).toArray⟩ : ByteArray)[0]'(by omega) = c := by
    have := hget 0 (by omega)
    rw [this]
    simp [hcX]
  refine Int_walk (N := i.natAbs) (mi := decide (i < 0)) (by omega) (by omega) (fun j h => ?_) ?_ ?_ (by omega) (fun h => ?_) (fun h => ?_) w
  · rw [hget j h]
    exact Fl.itoa_chars i _ (List.getElem_mem _)
  · rw [hhead]
    by_cases hi : i < 0
    · have : c = 45 := by
        unfold Lib.itoa at hcX
        rw [if_pos hi] at hcX
        exact (List.cons.inj hcX).1.symm
      rw [this, decide_eq_true hi]
      rfl
    · have : isD c := by
        unfold Lib.itoa at hcX
        rw [if_neg hi] at hcX
        exact Digs_dec i.toNat c (by rw [hcX]; simp)
      unfold isD at this
      rw [decide_eq_false hi, beq_eq_false_iff_ne]
      omega
  · exact Fl.fsOf_itoa i
  · have : ¬ i < 0 := by simpa using h
    omega
  · have : i < 0 := by simpa using h
    omega
end Go.Proofs.YtokmkkkanphihaaGreatRDoor

/- spec.Float: what it says of the text of a short number. -/
namespace Go.Proofs.YtokmkkkanphihaaGreatRDoor
open Go.RowKit Go.Sort

theorem negF2 {x : Nat} (hx : x < 9223372036854775808) (w : World) : (Op.unary .neg (.float .f64 x)).run Tryz.prog w = .ok (.float .f64 (x + 9223372036854775808)) w := by
  have h : Op.negFloat .f64 x = x + 9223372036854775808 := by
    unfold Op.negFloat
    have e : 2 ^ (FloatKind.f64.format.exponentBits + FloatKind.f64.format.fractionBits) = 2 ^ 63 := by decide
    have h63 : (2 : Nat) ^ 63 = 9223372036854775808 := by decide
    rw [e]
    have e2 : x + 9223372036854775808 = 2 ^ 63 * 1 + x := by omega
    rw [e2, Nat.two_pow_add_eq_or_of_lt (by omega)]
    apply Nat.eq_of_testBit_eq
    intro i
    simp only [Nat.testBit_xor, Nat.testBit_or, Nat.mul_one, Nat.testBit_two_pow]
    by_cases hi : 63 = i
    · subst hi
      have : x.testBit 63 = false := Nat.testBit_lt_two_pow (by omega)
      simp [this]
    · simp [hi]
  have h2 : (Op.unary .neg (.float .f64 x)).run Tryz.prog w = .ok (.float .f64 (Op.negFloat .f64 x)) w := rfl
  rw [h] at h2
  exact h2

theorem behind_le : ∀ (l : List UInt8) (s : Fl.Fs), (l.foldl Fl.fstep s).behind ≤ s.behind + l.length
  | [], _ => by simp
  | c :: l, s => by
    have h := behind_le l (Fl.fstep s c)
    have h2 : (Fl.fstep s c).behind ≤ s.behind + 1 := by
      unfold Fl.fstep
      split
      · simp
      · split
        · simp
        · show (if s.point then s.behind + 1 else s.behind) ≤ _
          split <;> omega
    rw [List.foldl_cons, List.length_cons]
    omega

set_option maxHeartbeats 3200000 in
set_option maxRecDepth 100000 in
theorem Flt_walk {t : ByteArray} {N K mag b : Nat} {ng : Bool} (hs0 : 0 < t.size) (hs : t.size ≤ 60) (ht : ∀ j (h : j < t.size), t[j] = 45 ∨ t[j] = 46 ∨ isD t[j]) (hng : ((t[0].toNat : Int) == 45) = ng)
    (hN : (Fl.fsOf t.data.toList).n = N) (hK : (Fl.fsOf t.data.toList).behind = K) (hN15 : N < 10 ^ 15) (hK15 : K ≤ 15)
    (hdiv : Ieee.double.div (Fl.ofN N) (Fl.tenW K) = some mag) (hmag : mag < 9223372036854775808) (hb : b = mag + signW ng) (w : World) :
    Calls Tryz.prog 39 #[.string t] w fun e w' => e = .returned (.tuple #[.float .f64 b, .bool true]) ∧ ∃ n, w' = w.drewN n := by
  have hle : ∀ j, (Fl.fsOf (t.data.toList.take j)).n ≤ N := fun j => by rw [← hN]; exact Fl.fsOf_take _ j
  have hmany : ∀ j, (Fl.fsOf (t.data.toList.take j)).many ≤ 15 := fun j => by
    have h1 := Fl.many_of (t.data.toList.take j) Fl.fs0 (fun c hc => by
      obtain ⟨i, hi, rfl⟩ := List.getElem_of_mem (List.mem_of_mem_take hc)
      exact ht i hi) rfl
    have h2 : (Fl.fsOf (t.data.toList.take j)).many = Fl.nd (Fl.fsOf (t.data.toList.take j)).n := h1
    rw [h2]
    exact Fl.nd_le (Nat.lt_of_le_of_lt (hle j) hN15)
  have hbeh : ∀ j, (Fl.fsOf (t.data.toList.take j)).behind ≤ 60 := fun j => by
    have h1 := behind_le (t.data.toList.take j) Fl.fs0
    have h2 : (t.data.toList.take j).length ≤ t.size := by rw [List.length_take]; exact Nat.min_le_right _ _
    have h3 : (Fl.fsOf (t.data.toList.take j)).behind ≤ 0 + (t.data.toList.take j).length := h1
    omega
  have hstep : ∀ (j : Nat) (h : j < t.size), Fl.fsOf (t.data.toList.take (j + 1)) = Fl.fstep (Fl.fsOf (t.data.toList.take j)) t[j] := fun j h => fs_next h
  have hN15' : N < 1000000000000000 := hN15
  have hquo : ∀ w, (binOp .quo 22 (.float .f64 (floatOfInt .f64 (N : Int))) (.float .f64 (Fl.tenW K))).run Tryz.prog w = .ok (.float .f64 mag) w := fun w => run_float_arith w .quo _ .f64 _ _ _ (by rw [ofInt_ofN]; exact hdiv)
  have hneg := fun w => negF2 hmag w
  have hleH := Lib.hid hle
  have hmanyH := Lib.hid hmany
  have hbehH := Lib.hid hbeh
  have htH := Lib.hid ht
  have hstepH := Lib.hid hstep
  have hNH := Lib.hid hN
  have hKH := Lib.hid hK
  have hbH := Lib.hid hb
  clear hle hmany hbeh ht hstep hN hK hdiv hmag hN15 hb
  go_enter Tryz.func39, Tryz.ntmps39
  go_wp2_with fail
  go_loopg [4, 5, 6, 7, 13] (t.size) (fun k n many behind point i wr => ∃ j : Nat, j ≤ t.size ∧ k = t.size - j ∧ i = .int .i64 j ∧ n = .int .u64 ((Fl.fsOf (t.data.toList.take j)).n : Nat) ∧ many = .int .i64 ((Fl.fsOf (t.data.toList.take j)).many : Nat) ∧ behind = .int .i64 ((Fl.fsOf (t.data.toList.take j)).behind : Nat) ∧ point = .bool (Fl.fsOf (t.data.toList.take j)).point ∧ wr = w)
  case atStart => exact ⟨0, Nat.zero_le _, rfl, rfl, rfl, rfl, rfl, rfl, rfl⟩
  case round =>
    obtain ⟨j, hj, hk, rfl, rfl, rfl, rfl, rfl, rfl⟩ := hrel
    have hnj := hleH.out j
    have hmj := hmanyH.out j
    have hbj := hbehH.out j
    by_cases hlt : j < t.size
    · have hst := hstepH.out j hlt
      have hnj1 := hleH.out (j + 1)
      have hmj1 := hmanyH.out (j + 1)
      have hbj1 := hbehH.out (j + 1)
      generalize hs1 : Fl.fsOf (t.data.toList.take (j + 1)) = s1 at hst hnj1 hmj1 hbj1
      have hs1H := Lib.hid hs1
      clear hs1
      generalize Fl.fsOf (t.data.toList.take j) = s at *
      obtain ⟨nn, mm, bb, pp⟩ := s
      simp only at *
      rcases htH.out j hlt with hc | hc | hc
      · have h45 : (t[j].toNat : Int) = 45 := toInt_of hc
        have hnext : Hid (s1 = ⟨nn, mm, bb, pp⟩) := Lib.hid (by rw [hst, hc]; rfl)
        clear hst hc
        go_wp2_with fail
        go_roundg (t.size - (j + 1))
        case measure => omega
        case rel => exact ⟨j + 1, by omega, rfl, by go_num, by rw [hs1H.out, hnext.out], by rw [hs1H.out, hnext.out], by rw [hs1H.out, hnext.out], by rw [hs1H.out, hnext.out], rfl⟩
      · have h46 : (t[j].toNat : Int) = 46 := toInt_of hc
        have hnext : Hid (s1 = ⟨nn, mm, bb, true⟩) := Lib.hid (by rw [hst, hc]; rfl)
        clear hst hc
        go_wp2_with fail
        go_roundg (t.size - (j + 1))
        case measure => omega
        case rel => exact ⟨j + 1, by omega, rfl, by go_num, by rw [hs1H.out, hnext.out], by rw [hs1H.out, hnext.out], by rw [hs1H.out, hnext.out], by rw [hs1H.out, hnext.out], rfl⟩
      · obtain ⟨d, hd⟩ : ∃ d : Nat, t[j].toNat = 48 + d := ⟨t[j].toNat - 48, by unfold isD at hc; omega⟩
        have hd9 : d ≤ 9 := by unfold isD at hc; omega
        have hdi : (t[j].toNat : Int) = 48 + (d : Int) := by omega
        have hn45 : t[j] ≠ 45 := by intro e; rw [e] at hd; simp at hd; omega
        have hn46 : t[j] ≠ 46 := by intro e; rw [e] at hd; simp at hd; omega
        have hnx : s1 = ⟨nn * 10 + d, if 0 < nn ∨ 0 < d then mm + 1 else mm, if pp then bb + 1 else bb, pp⟩ := by
          rw [hst]
          unfold Fl.fstep
          rw [if_neg hn45, if_neg hn46]
          have e1 : t[j].toNat - 48 = d := by omega
          have e2 : (48 < t[j].toNat) ↔ 0 < d := by omega
          simp only [e1, e2]
        subst hnx
        simp only at hnj1 hmj1 hbj1
        have hcH : Hid (isD t[j]) := Lib.hid hc
        have hb45 : ((48 : Int) + (d : Int) == 45) = false := by rw [beq_eq_false_iff_ne]; omega
        have hb46 : ((48 : Int) + (d : Int) == 46) = false := by rw [beq_eq_false_iff_ne]; omega
        have hciH : Hid ((48 : Int) + (d : Int) = (t[j].toNat : Int)) := Lib.hid hdi.symm
        clear hst hn45 hn46 hd hc
        by_cases hn0 : 0 < nn
        · have hn0i : (0 : Int) < (nn : Int) := by omega
          rw [if_pos (.inl hn0)] at hmj1
          cases pp with
          | true =>
            go_wp2_with (go_at_call 67; refine (isDigit_yes hciH.out hcH.out).mono ?_; rintro e w1 ⟨rfl, rfl⟩)
            go_roundg (t.size - (j + 1))
            case measure => omega
            case rel => exact ⟨j + 1, by omega, rfl, by go_num, by rw [hs1H.out]; go_num, by rw [hs1H.out]; simp only [if_pos (show 0 < nn ∨ 0 < d from .inl hn0)]; go_num, by rw [hs1H.out]; simp only [if_true]; go_num, by rw [hs1H.out], rfl⟩
          | false =>
            go_wp2_with (go_at_call 67; refine (isDigit_yes hciH.out hcH.out).mono ?_; rintro e w1 ⟨rfl, rfl⟩)
            go_roundg (t.size - (j + 1))
            case measure => omega
            case rel => exact ⟨j + 1, by omega, rfl, by go_num, by rw [hs1H.out]; go_num, by rw [hs1H.out]; simp only [if_pos (show 0 < nn ∨ 0 < d from .inl hn0)]; go_num, by rw [hs1H.out]; rfl, by rw [hs1H.out], rfl⟩
        · obtain rfl : nn = 0 := by omega
          by_cases hd0 : 0 < d
          · have hd0i : (48 : Int) < 48 + (d : Int) := by omega
            rw [if_pos (.inr hd0)] at hmj1
            cases pp with
            | true =>
              go_wp2_with (go_at_call 67; refine (isDigit_yes hciH.out hcH.out).mono ?_; rintro e w1 ⟨rfl, rfl⟩)
              go_roundg (t.size - (j + 1))
              case measure => omega
              case rel => exact ⟨j + 1, by omega, rfl, by go_num, by rw [hs1H.out]; go_num, by rw [hs1H.out]; simp only [if_pos (show 0 < 0 ∨ 0 < d from .inr hd0)]; go_num, by rw [hs1H.out]; simp only [if_true]; go_num, by rw [hs1H.out], rfl⟩
            | false =>
              go_wp2_with (go_at_call 67; refine (isDigit_yes hciH.out hcH.out).mono ?_; rintro e w1 ⟨rfl, rfl⟩)
              go_roundg (t.size - (j + 1))
              case measure => omega
              case rel => exact ⟨j + 1, by omega, rfl, by go_num, by rw [hs1H.out]; go_num, by rw [hs1H.out]; simp only [if_pos (show 0 < 0 ∨ 0 < d from .inr hd0)]; go_num, by rw [hs1H.out]; rfl, by rw [hs1H.out], rfl⟩
          · obtain rfl : d = 0 := by omega
            cases pp with
            | true =>
              go_wp2_with (go_at_call 67; refine (isDigit_yes (c := 48) rfl (by unfold isD; decide)).mono ?_; rintro e w1 ⟨rfl, rfl⟩)
              go_roundg (t.size - (j + 1))
              case measure => omega
              case rel => exact ⟨j + 1, by omega, rfl, by go_num, by rw [hs1H.out]; go_num, by rw [hs1H.out]; rfl, by rw [hs1H.out]; simp only [if_true]; go_num, by rw [hs1H.out], rfl⟩
            | false =>
              go_wp2_with (go_at_call 67; refine (isDigit_yes (c := 48) rfl (by unfold isD; decide)).mono ?_; rintro e w1 ⟨rfl, rfl⟩)
              go_roundg (t.size - (j + 1))
              case measure => omega
              case rel => exact ⟨j + 1, by omega, rfl, by go_num, by rw [hs1H.out]; go_num, by rw [hs1H.out]; rfl, by rw [hs1H.out]; rfl, by rw [hs1H.out], rfl⟩
    · have hje : j = t.size := by omega
      subst hje
      have hall : Fl.fsOf (t.data.toList.take t.size) = Fl.fsOf t.data.toList := by
        rw [List.take_of_length_le (show t.data.toList.length ≤ t.size from Nat.le_refl _)]
      rw [hall, hNH.out, hKH.out]
      rw [hall] at hnj hmj hbj
      clear hall hnj hmj hbj
      cases ng with
      | false =>
        have hbe := hbH.out
        have hbeH : Hid (b = mag) := Lib.hid hbe
        clear hbe
        go_wp2_with (go_at_call 48; refine (ten_any K hK15 _).mono ?_; rintro e w' ⟨rfl, rfl⟩)
        go_ret2
        exact ⟨by rw [hbeH.out]; rfl, 0, rfl⟩
      | true =>
        have hbe := hbH.out
        have hbeH : Hid (b = mag + 9223372036854775808) := Lib.hid hbe
        clear hbe
        go_wp2_with (go_at_call 48; refine (ten_any K hK15 _).mono ?_; rintro e w' ⟨rfl, rfl⟩)
        go_ret2
        exact ⟨by rw [hbeH.out]; rfl, 0, rfl⟩

theorem first_neg {l : List UInt8} {neg : Bool} {X : List UInt8} (hl : l = sgn neg ++ X) (hX : ∃ c Y, X = c :: Y ∧ isD c) (h : 0 < (⟨l.toArray⟩ : ByteArray).size) : (((⟨l.toArray⟩ : ByteArray)[0].toNat : Int) == 45) = neg := by
  obtain ⟨c, Y, rfl, hc⟩ := hX
  subst hl
  cases neg
  · show ((c.toNat : Int) == 45) = false
    unfold isD at hc
    rw [beq_eq_false_iff_ne]
    omega
  · rfl

theorem dec_head (n : Nat) : ∃ c Y, Lib.decDigits n = c :: Y ∧ isD c := by
  have h := Digs_dec n
  cases e : Lib.decDigits n with
  | nil => have := Fl.dec_pos n; rw [e] at this; simp at this
  | cons c Y => exact ⟨c, Y, rfl, h c (by rw [e]; simp)⟩

/-- The text of a number of few digits tells it. -/
theorem Float_any {r : Nat} {l : List UInt8} (h : RealTxt r l) (w : World) :
    Calls Tryz.prog 39 #[.string ⟨l.toArray⟩] w fun e w' => e = .returned (.tuple #[.float .f64 r, .bool true]) ∧ ∃ n, w' = w.drewN n := by
  have hlen := real_len h
  have hget : ∀ j (hj : j < (⟨l.toArray⟩ : ByteArray).size), (⟨l.toArray⟩ : ByteArray)[j] = l[j]'hj := fun j h => rfl
  have hsz : (⟨l.toArray⟩ : ByteArray).size = l.length := rfl
  rcases h with ⟨neg, rfl, rfl⟩ | ⟨neg, n, k, mag, hn0, hn, hk, hk0, hd, rfl, rfl⟩
  · have hp : 0 < (⟨(sgn neg ++ [48]).toArray⟩ : ByteArray).size := by rw [hsz]; simp
    refine Flt_walk (N := 0) (K := 0) (mag := 0) (ng := neg) hp (by omega) (fun j hj => ?_) (first_neg rfl ⟨48, [], rfl, by unfold isD; decide⟩ hp) (by show (Fl.fsOf (sgn neg ++ [48])).n = 0; rw [Fl.fsOf_zero]) (by show (Fl.fsOf (sgn neg ++ [48])).behind = 0; rw [Fl.fsOf_zero]) (by decide) (by omega) ?_ (by decide) (by rw [Nat.zero_add]) w
    · rw [hget j hj]
      have hm := List.getElem_mem (l := sgn neg ++ [48]) hj
      rcases List.mem_append.1 hm with hm | hm
      · cases neg
        · simp [sgn] at hm
        · left; simpa [sgn] using hm
      · right; right
        rw [List.mem_singleton.1 hm]
        unfold isD; decide
    · obtain ⟨q, hq, _, hq0, _⟩ := Fl.div_some (n := 0) (k := 0) (by omega) (by omega)
      rw [hq, hq0 rfl]
  · have hpl : ∃ c Y, Fl.plainTxt n k = c :: Y ∧ isD c := by
      obtain ⟨c, Y, e, hc⟩ := dec_head (n / 10 ^ k)
      exact ⟨c, _, by unfold Fl.plainTxt; rw [e]; rfl, hc⟩
    have hp : 0 < (⟨(sgn neg ++ Fl.plainTxt n k).toArray⟩ : ByteArray).size := by
      obtain ⟨c, Y, e, _⟩ := hpl
      rw [hsz, List.length_append, e, List.length_cons]
      omega
    obtain ⟨q, hq, hqlt, _, _⟩ := Fl.div_some (n := n) (k := k) (by omega) (by omega)
    have hqm : q = mag := by
      have h2 : Ieee.double.div (Fl.ofN n) (Fl.tenW k) = some mag := hd
      rw [hq] at h2
      exact Option.some.inj h2
    refine Flt_walk (N := n) (K := k) (mag := mag) (ng := neg) hp (by omega) (fun j hj => ?_) (first_neg rfl hpl hp) (by show (Fl.fsOf (sgn neg ++ Fl.plainTxt n k)).n = n; rw [Fl.fsOf_plain]) (by show (Fl.fsOf (sgn neg ++ Fl.plainTxt n k)).behind = k; rw [Fl.fsOf_plain]) hn (by omega) hd (by rw [← hqm]; omega) rfl w
    rw [hget j hj]
    exact Fl.plain_chars neg n k _ (List.getElem_mem _)
end Go.Proofs.YtokmkkkanphihaaGreatRDoor
