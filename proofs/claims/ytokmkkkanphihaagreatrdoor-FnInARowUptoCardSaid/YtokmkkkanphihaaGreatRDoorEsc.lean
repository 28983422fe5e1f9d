/- How the encoder escapes a text. -/
import Derived.Test.YtokmkkkanphihaaGreatRDoorEncC
namespace Go.Proofs.YtokmkkkanphihaaGreatRDoor
open Go.RowKit

/-- Half a byte as a hexadecimal digit. -/
def hexD (n : Nat) : UInt8 := if n < 10 then UInt8.ofNat (48 + n) else UInt8.ofNat (87 + n)

/-- What stands for a byte of a text. -/
def escB (c : UInt8) : List UInt8 :=
  if 32 ≤ c.toNat ∧ c.toNat ≠ 92 ∧ c.toNat ≠ 34 then [c]
  else if c.toNat = 92 ∨ c.toNat = 34 then [92, c]
  else if c.toNat = 10 then [92, 110]
  else if c.toNat = 12 then [92, 102]
  else if c.toNat = 8 then [92, 98]
  else if c.toNat = 13 then [92, 114]
  else if c.toNat = 9 then [92, 116]
  else [92, 117, 48, 48, hexD (c.toNat / 16), hexD (c.toNat % 16)]

def esc (l : List UInt8) : List UInt8 := l.flatMap escB

theorem escB_len (c : UInt8) : (escB c).length ≤ 6 ∧ 1 ≤ (escB c).length := by
  unfold escB
  repeat' split
  all_goals simp
theorem esc_len (l : List UInt8) : (esc l).length ≤ 6 * l.length := by
  induction l with
  | nil => simp [esc]
  | cons c l ih =>
    have := (escB_len c).1
    simp only [esc, List.flatMap_cons, List.length_append, List.length_cons] at *
    omega
theorem esc_snoc (l : List UInt8) (c : UInt8) : esc (l ++ [c]) = esc l ++ escB c := by simp [esc]

theorem take_snoc (s : ByteArray) (k : Nat) (h : k < s.size) : s.data.toList.take (k + 1) = s.data.toList.take k ++ [s[k]] := by
  rw [List.take_succ_eq_append_getElem (by simpa using h)]; rfl

theorem and15 (x : Nat) (h : x < 256) : bits BinOp.and IntKind.u8 (x : Int) 15 = ((x % 16 : Nat) : Int) := by
  have : ∀ y : Fin 256, bits BinOp.and IntKind.u8 (y.val : Int) 15 = ((y.val % 16 : Nat) : Int) := by decide +kernel
  exact this ⟨x, h⟩

theorem writeTwoBytes_u8 {w0 w : World} {b0 : Option Nat} {N e : Nat} {s : St} (b c : UInt8) (h : EncF w0 b0 N e s w) (hlen : s.out.length + 2 ≤ lim) :
    Calls Tryz.prog 77 #[.pointer (some ⟨e, 0, none⟩), .int .u8 (b.toNat : Int), .int .u8 (c.toNat : Int)] w fun ev w' => ev = .returned (.tuple #[]) ∧ EncF w0 b0 N e (s.add [b, c]) w' := by
  have hb := b.toNat_lt
  have hc := c.toNat_lt
  have := writeTwoBytes_int (b.toNat : Int) (c.toNat : Int) h (by omega) (by omega) (by omega) (by omega) hlen
  simpa only [b8_toNat] using this

def hexS : ByteArray := ⟨#[48, 49, 50, 51, 52, 53, 54, 55, 56, 57, 97, 98, 99, 100, 101, 102]⟩
theorem hex_at (n : Nat) (h : n < 16) : hexS[n]'h = hexD n := by
  have : ∀ y : Fin 16, hexS[y.val]'y.isLt = hexD y.val := by decide +kernel
  exact this ⟨n, h⟩

set_option maxHeartbeats 4000000 in
set_option maxRecDepth 100000 in
theorem writeStringEscape_any {w0 w : World} {b0 : Option Nat} {N e : Nat} {s : St} (t : ByteArray) (h : EncF w0 b0 N e s w) (hlen : s.out.length + 6 * t.size ≤ lim) :
    Calls Tryz.prog 69 #[.pointer (some ⟨e, 0, none⟩), .string t] w fun ev w' => ev = .returned (.tuple #[]) ∧ EncF w0 b0 N e (s.add (esc t.data.toList)) w' := by
  have hlen' : s.out.length + 6 * t.size ≤ 1099511627776 := hlen
  have hH := Lib.hid h
  clear h hlen
  go_enter Tryz.func69, Tryz.ntmps69
  go_wp2
  go_loopw [5] (fun i wr => ∃ k : Nat, k ≤ t.size ∧ i = .int .i64 k ∧ EncF w0 b0 N e (s.add (esc (t.data.toList.take k))) wr) (fun i _ => t.size - (intOf i).toNat)
  case atStart => exact ⟨0, Nat.zero_le _, rfl, by simpa [esc, St.add_nil] using hH.out⟩
  case round =>
    obtain ⟨k, hk, rfl, hE⟩ := hrel
    have hEH := Lib.hid hE
    clear hE
    by_cases hlt : k < t.size
    · have hel : (esc (t.data.toList.take k)).length ≤ 6 * k := by
        have := esc_len (t.data.toList.take k)
        rw [List.length_take] at this
        omega
      have hr6 : (s.add (esc (t.data.toList.take k))).out.length + 6 ≤ lim := by
        show _ ≤ 1099511627776
        rw [St.add_out, List.length_append]; omega
      have hr1 : (s.add (esc (t.data.toList.take k))).out.length + 1 ≤ lim := Nat.le_trans (by omega) hr6
      have hr4 : (s.add (esc (t.data.toList.take k))).out.length + 4 ≤ lim := Nat.le_trans (by omega) hr6
      have hr7 : ((s.add (esc (t.data.toList.take k))).add [92, 117, 48, 48]).out.length + 2 ≤ lim := by
        rw [St.add_out, List.length_append]; exact hr6
      have hr2 : (s.add (esc (t.data.toList.take k))).out.length + 2 ≤ lim := Nat.le_trans (by omega) hr6
      have hb := (t[k]'hlt).toNat_lt
      by_cases p1 : 32 ≤ (t[k]'hlt).toNat ∧ (t[k]'hlt).toNat ≠ 92 ∧ (t[k]'hlt).toNat ≠ 34
      · have hesc : escB (t[k]'hlt) = [t[k]'hlt] := by unfold escB; rw [if_pos p1]
        obtain ⟨p2, p3, p4⟩ := p1
        have q3 : ((((t[k]'hlt).toNat : Nat) : Int) != 92) = true := by rw [bne_iff_ne]; omega
        have q4 : ((((t[k]'hlt).toNat : Nat) : Int) != 34) = true := by rw [bne_iff_ne]; omega
        have hescH := Lib.hid hesc
        clear hesc p3 p4
        go_wp2_with (first | (go_at_call 31; refine (writeByte_any (t[k]'hlt) hEH.out hr1).mono ?_; rintro ev w1 ⟨rfl, hE1⟩; have hE1H := Lib.hid hE1; clear hE1) | (go_at_call 77; refine (writeTwoBytes_int _ _ hEH.out (by omega) (by omega) (by omega) (by omega) hr2).mono ?_; rintro ev w1 ⟨rfl, hE1⟩; have hE1H := Lib.hid hE1; clear hE1))
        go_roundw
        case rel =>
          refine ⟨k + 1, by omega, by go_num, ?_⟩
          have hE1 := hE1H.out
          rw [take_snoc t k hlt, esc_snoc, ← St.add_add, hescH.out]
          exact hE1
        case measure => simp [intOf]; omega
      · by_cases p92 : (t[k]'hlt).toNat = 92
        · have hc8 : t[k]'hlt = 92 := UInt8.toNat_inj.1 (by rw [p92]; rfl)
          have hesc : escB (t[k]'hlt) = [92, 92] := by rw [hc8]; rfl
          have hx : ((((t[k]'hlt).toNat : Nat) : Int)) = 92 := by omega
          have hescH := Lib.hid hesc
          clear hesc p92 hc8 hb
          go_wp2_with (first | (go_at_call 31; refine (writeByte_any (t[k]'hlt) hEH.out hr1).mono ?_; rintro ev w1 ⟨rfl, hE1⟩; have hE1H := Lib.hid hE1; clear hE1) | (go_at_call 77; refine (writeTwoBytes_int _ _ hEH.out (by omega) (by omega) (by omega) (by omega) hr2).mono ?_; rintro ev w1 ⟨rfl, hE1⟩; have hE1H := Lib.hid hE1; clear hE1))
          go_roundw
          case rel =>
            refine ⟨k + 1, by omega, by go_num, ?_⟩
            have hE1 := hE1H.out
            rw [take_snoc t k hlt, esc_snoc, ← St.add_add, hescH.out]
            exact hE1
          case measure => simp [intOf]; omega
        · by_cases p34 : (t[k]'hlt).toNat = 34
          · have hc8 : t[k]'hlt = 34 := UInt8.toNat_inj.1 (by rw [p34]; rfl)
            have hesc : escB (t[k]'hlt) = [92, 34] := by rw [hc8]; rfl
            have hx : ((((t[k]'hlt).toNat : Nat) : Int)) = 34 := by omega
            have hescH := Lib.hid hesc
            clear hesc p34 hc8 hb
            go_wp2_with (first | (go_at_call 31; refine (writeByte_any (t[k]'hlt) hEH.out hr1).mono ?_; rintro ev w1 ⟨rfl, hE1⟩; have hE1H := Lib.hid hE1; clear hE1) | (go_at_call 77; refine (writeTwoBytes_int _ _ hEH.out (by omega) (by omega) (by omega) (by omega) hr2).mono ?_; rintro ev w1 ⟨rfl, hE1⟩; have hE1H := Lib.hid hE1; clear hE1))
            go_roundw
            case rel =>
              refine ⟨k + 1, by omega, by go_num, ?_⟩
              have hE1 := hE1H.out
              rw [take_snoc t k hlt, esc_snoc, ← St.add_add, hescH.out]
              exact hE1
            case measure => simp [intOf]; omega
          · by_cases p10 : (t[k]'hlt).toNat = 10
            · have hc8 : t[k]'hlt = 10 := UInt8.toNat_inj.1 (by rw [p10]; rfl)
              have hesc : escB (t[k]'hlt) = [92, 110] := by rw [hc8]; rfl
              have hx : ((((t[k]'hlt).toNat : Nat) : Int)) = 10 := by omega
              have hescH := Lib.hid hesc
              clear hesc p10 hc8 hb
              go_wp2_with (first | (go_at_call 31; refine (writeByte_any (t[k]'hlt) hEH.out hr1).mono ?_; rintro ev w1 ⟨rfl, hE1⟩; have hE1H := Lib.hid hE1; clear hE1) | (go_at_call 77; refine (writeTwoBytes_int _ _ hEH.out (by omega) (by omega) (by omega) (by omega) hr2).mono ?_; rintro ev w1 ⟨rfl, hE1⟩; have hE1H := Lib.hid hE1; clear hE1))
              go_roundw
              case rel =>
                refine ⟨k + 1, by omega, by go_num, ?_⟩
                have hE1 := hE1H.out
                rw [take_snoc t k hlt, esc_snoc, ← St.add_add, hescH.out]
                exact hE1
              case measure => simp [intOf]; omega
            · by_cases p12 : (t[k]'hlt).toNat = 12
              · have hc8 : t[k]'hlt = 12 := UInt8.toNat_inj.1 (by rw [p12]; rfl)
                have hesc : escB (t[k]'hlt) = [92, 102] := by rw [hc8]; rfl
                have hx : ((((t[k]'hlt).toNat : Nat) : Int)) = 12 := by omega
                have hescH := Lib.hid hesc
                clear hesc p12 hc8 hb
                go_wp2_with (first | (go_at_call 31; refine (writeByte_any (t[k]'hlt) hEH.out hr1).mono ?_; rintro ev w1 ⟨rfl, hE1⟩; have hE1H := Lib.hid hE1; clear hE1) | (go_at_call 77; refine (writeTwoBytes_int _ _ hEH.out (by omega) (by omega) (by omega) (by omega) hr2).mono ?_; rintro ev w1 ⟨rfl, hE1⟩; have hE1H := Lib.hid hE1; clear hE1))
                go_roundw
                case rel =>
                  refine ⟨k + 1, by omega, by go_num, ?_⟩
                  have hE1 := hE1H.out
                  rw [take_snoc t k hlt, esc_snoc, ← St.add_add, hescH.out]
                  exact hE1
                case measure => simp [intOf]; omega
              · by_cases p8 : (t[k]'hlt).toNat = 8
                · have hc8 : t[k]'hlt = 8 := UInt8.toNat_inj.1 (by rw [p8]; rfl)
                  have hesc : escB (t[k]'hlt) = [92, 98] := by rw [hc8]; rfl
                  have hx : ((((t[k]'hlt).toNat : Nat) : Int)) = 8 := by omega
                  have hescH := Lib.hid hesc
                  clear hesc p8 hc8 hb
                  go_wp2_with (first | (go_at_call 31; refine (writeByte_any (t[k]'hlt) hEH.out hr1).mono ?_; rintro ev w1 ⟨rfl, hE1⟩; have hE1H := Lib.hid hE1; clear hE1) | (go_at_call 77; refine (writeTwoBytes_int _ _ hEH.out (by omega) (by omega) (by omega) (by omega) hr2).mono ?_; rintro ev w1 ⟨rfl, hE1⟩; have hE1H := Lib.hid hE1; clear hE1))
                  go_roundw
                  case rel =>
                    refine ⟨k + 1, by omega, by go_num, ?_⟩
                    have hE1 := hE1H.out
                    rw [take_snoc t k hlt, esc_snoc, ← St.add_add, hescH.out]
                    exact hE1
                  case measure => simp [intOf]; omega
                · by_cases p13 : (t[k]'hlt).toNat = 13
                  · have hc8 : t[k]'hlt = 13 := UInt8.toNat_inj.1 (by rw [p13]; rfl)
                    have hesc : escB (t[k]'hlt) = [92, 114] := by rw [hc8]; rfl
                    have hx : ((((t[k]'hlt).toNat : Nat) : Int)) = 13 := by omega
                    have hescH := Lib.hid hesc
                    clear hesc p13 hc8 hb
                    go_wp2_with (first | (go_at_call 31; refine (writeByte_any (t[k]'hlt) hEH.out hr1).mono ?_; rintro ev w1 ⟨rfl, hE1⟩; have hE1H := Lib.hid hE1; clear hE1) | (go_at_call 77; refine (writeTwoBytes_int _ _ hEH.out (by omega) (by omega) (by omega) (by omega) hr2).mono ?_; rintro ev w1 ⟨rfl, hE1⟩; have hE1H := Lib.hid hE1; clear hE1))
                    go_roundw
                    case rel =>
                      refine ⟨k + 1, by omega, by go_num, ?_⟩
                      have hE1 := hE1H.out
                      rw [take_snoc t k hlt, esc_snoc, ← St.add_add, hescH.out]
                      exact hE1
                    case measure => simp [intOf]; omega
                  · by_cases p9 : (t[k]'hlt).toNat = 9
                    · have hc8 : t[k]'hlt = 9 := UInt8.toNat_inj.1 (by rw [p9]; rfl)
                      have hesc : escB (t[k]'hlt) = [92, 116] := by rw [hc8]; rfl
                      have hx : ((((t[k]'hlt).toNat : Nat) : Int)) = 9 := by omega
                      have hescH := Lib.hid hesc
                      clear hesc p9 hc8 hb
                      go_wp2_with (first | (go_at_call 31; refine (writeByte_any (t[k]'hlt) hEH.out hr1).mono ?_; rintro ev w1 ⟨rfl, hE1⟩; have hE1H := Lib.hid hE1; clear hE1) | (go_at_call 77; refine (writeTwoBytes_int _ _ hEH.out (by omega) (by omega) (by omega) (by omega) hr2).mono ?_; rintro ev w1 ⟨rfl, hE1⟩; have hE1H := Lib.hid hE1; clear hE1))
                      go_roundw
                      case rel =>
                        refine ⟨k + 1, by omega, by go_num, ?_⟩
                        have hE1 := hE1H.out
                        rw [take_snoc t k hlt, esc_snoc, ← St.add_add, hescH.out]
                        exact hE1
                      case measure => simp [intOf]; omega
                    · have hlt32 : (t[k]'hlt).toNat < 32 := by omega
                      have hesc : escB (t[k]'hlt) = [92, 117, 48, 48] ++ [hexD ((t[k]'hlt).toNat / 16), hexD ((t[k]'hlt).toNat % 16)] := by
                        unfold escB
                        rw [if_neg p1, if_neg (by omega), if_neg p10, if_neg p12, if_neg p8, if_neg p13, if_neg p9]
                        rfl
                      have q0 : decide (32 ≤ (((t[k]'hlt).toNat : Nat) : Int)) = false := by simp; omega
                      have q1 : ((((t[k]'hlt).toNat : Nat) : Int) == 92) = false := by rw [beq_eq_false_iff_ne]; omega
                      have q2 : ((((t[k]'hlt).toNat : Nat) : Int) == 34) = false := by rw [beq_eq_false_iff_ne]; omega
                      have q3 : ((((t[k]'hlt).toNat : Nat) : Int) == 10) = false := by rw [beq_eq_false_iff_ne]; omega
                      have q4 : ((((t[k]'hlt).toNat : Nat) : Int) == 12) = false := by rw [beq_eq_false_iff_ne]; omega
                      have q5 : ((((t[k]'hlt).toNat : Nat) : Int) == 8) = false := by rw [beq_eq_false_iff_ne]; omega
                      have q6 : ((((t[k]'hlt).toNat : Nat) : Int) == 13) = false := by rw [beq_eq_false_iff_ne]; omega
                      have q7 : ((((t[k]'hlt).toNat : Nat) : Int) == 9) = false := by rw [beq_eq_false_iff_ne]; omega
                      have hand : bits BinOp.and IntKind.u8 (((t[k]'hlt).toNat : Nat) : Int) 15 = (((t[k]'hlt).toNat % 16 : Nat) : Int) := and15 _ (by omega)
                      have h16a : (0 : Int) ≤ (((t[k]'hlt).toNat : Nat) : Int) / 16 := by omega
                      have h16b : (((t[k]'hlt).toNat : Nat) : Int) / 16 < 16 := by omega
                      have h16c : ((((t[k]'hlt).toNat : Nat) : Int) / 16).toNat = (t[k]'hlt).toNat / 16 := by omega
                      have h16d : (0 : Int) ≤ (((t[k]'hlt).toNat : Nat) : Int) % 16 := by omega
                      have h16e : (((t[k]'hlt).toNat : Nat) : Int) % 16 < 16 := by omega
                      have h16f : ((((t[k]'hlt).toNat : Nat) : Int) % 16).toNat = (t[k]'hlt).toNat % 16 := by omega
                      have hm16 : (t[k]'hlt).toNat % 16 < 16 := Nat.mod_lt _ (by omega)
                      have hd16 : (t[k]'hlt).toNat / 16 < 16 := by omega
                      have hescH := Lib.hid hesc
                      clear hesc p1 p92 p34 p10 p12 p8 p13 p9 hb
                      go_wp2_with (first | (go_at_call 70; refine (writeString_any ⟨#[92, 117, 48, 48]⟩ hEH.out (by decide) hr4).mono ?_; rintro ev w1 ⟨rfl, hE1⟩; have hE1H := Lib.hid hE1; clear hE1))
                      go_still_tail 7, (by kernel_rfl)
                      go_wp2_with fail
                      refine (writeTwoBytes_u8 (hexS[(t[k]'hlt).toNat / 16]'hd16) (hexS[(t[k]'hlt).toNat % 16]'hm16) hE1H.out.drew hr7).mono ?_
                      rintro ev w2 ⟨rfl, hE2⟩
                      have hE2H := Lib.hid hE2
                      clear hE2
                      go_wp2
                      go_roundw
                      case rel =>
                        refine ⟨k + 1, by omega, by go_num, ?_⟩
                        have hE2 := hE2H.out
                        rw [take_snoc t k hlt, esc_snoc, ← St.add_add, hescH.out, ← St.add_add, ← hex_at _ hd16, ← hex_at _ hm16]
                        exact hE2
                      case measure => simp [intOf]; omega
    · have hk' : k = t.size := by omega
      go_wp2
      go_end0
      refine ⟨rfl, ?_⟩
      have hE := hEH.out
      rw [hk', List.take_of_length_le (by simp)] at hE
      exact hE
end Go.Proofs.YtokmkkkanphihaaGreatRDoor
