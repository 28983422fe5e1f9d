/- strconv.AppendFloat and strconv.AppendBool as the encoder calls them. -/
import Derived.Test.YtokmkkkanphihaaGreatRDoorFtoaG
namespace Go.Proofs.YtokmkkkanphihaaGreatRDoor
open Go.RowKit Go.Sort

/-- The text of a number of few digits: b its word, t its text. -/
def RealTxt (b : Nat) (t : List UInt8) : Prop :=
  (∃ neg, b = signW neg ∧ t = sgn neg ++ [48]) ∨
  ∃ neg n k mag, 0 < n ∧ n < 10 ^ 15 ∧ k ≤ 9 ∧ (k = 0 ∨ n % 10 ≠ 0) ∧ Ieee.double.div (Fl.ofN n) (Fl.ofN (10 ^ k)) = some mag ∧ b = mag + signW neg ∧ t = sgn neg ++ Fl.plainTxt n k

theorem AppendFloat_any {w : World} {N b : Nat} {v : Value} {out t : List UInt8} (ht : RealTxt b t)
    (htab : ∀ p, p ≤ 25 → PowAt w p) (htab2 : Lib.TabIs Tryz.prog w "internal/strconv.uint64pow10" .u64 Lib.pow10Tab) (hN : N ≤ w.heap.size)
    (hown : w.ownsRow N 5 1 v out.length (bvs out)) (hnew : v.ownBlock ≠ some w.heap.size) (hlen : out.length + 100 ≤ lim) :
    Calls Tryz.prog 72 #[v, .float .f64 b, .int .u8 102, .int .i64 (-1), .int .i64 64] w (RetBuf w N v (out ++ t)) := by
  have h1 : Calls Tryz.prog 84 #[v, .float .f64 b, .int .u8 102, .int .i64 (-1)] w (RetBuf w N v (out ++ t)) := by
    rcases ht with ⟨neg, rfl, rfl⟩ | ⟨neg, n, k, mag, a1, a2, a3, a4, a5, rfl, rfl⟩
    · exact ftoa_zero neg hN hown hlen
    · exact ftoa_short neg a1 a2 a3 a4 a5 htab htab2 hN hown hnew hlen
  clear htab htab2 hown hlen ht
  have h1H := Lib.hid h1
  clear h1
  have h2 : Calls Tryz.prog 79 #[v, .float .f64 b, .int .u8 102, .int .i64 (-1), .int .i64 64] w (RetBuf w N v (out ++ t)) := by
    go_enter Tryz.func79, Tryz.ntmps79
    go_wp2_with (go_at_call 84; refine h1H.out.mono ?_; rintro e w2 ⟨v2, rfl, hb2⟩; have hb2H := Lib.hid hb2; clear hb2)
    go_ret
    exact ⟨v2, rfl, hb2H.out⟩
  have h2H := Lib.hid h2
  clear h2 h1H
  go_enter Tryz.func72, Tryz.ntmps72
  go_wp2_with (go_at_call 79; refine h2H.out.mono ?_; rintro e w2 ⟨v2, rfl, hb2⟩; have hb2H := Lib.hid hb2; clear hb2)
  go_ret
  exact ⟨v2, rfl, hb2H.out⟩

def boolTxt (b : Bool) : List UInt8 := if b then [116, 114, 117, 101] else [102, 97, 108, 115, 101]

set_option maxHeartbeats 1600000 in
set_option maxRecDepth 100000 in
theorem AppendBool_any {w : World} {N : Nat} {v : Value} {out : List UInt8} (b : Bool) (hN : N ≤ w.heap.size) (hown : w.ownsRow N 5 1 v out.length (bvs out)) (hlen : out.length + 5 ≤ lim) :
    Calls Tryz.prog 197 #[v, .bool b] w (RetBuf w N v (out ++ boolTxt b)) := by
  obtain ⟨i0, hi, hz0, hz1, hz2⟩ := info_parts info_u8
  have hlim' : out.length + 5 ≤ 1099511627776 := hlen
  have hownH := Lib.hid hown
  clear hlen hown
  have h1 : Calls Tryz.prog 198 #[v, .bool b] w (RetBuf w N v (out ++ boolTxt b)) := by
    cases b
    · have hsz : (⟨#[102, 97, 108, 115, 101]⟩ : ByteArray).size = 5 := rfl
      go_enter Tryz.func198, Tryz.ntmps198
      go_wp2_with (at_builtin; refine wpList_append_string_lies rfl (.tmp 8) (.const (.string ⟨#[102, 97, 108, 115, 101]⟩)) 36 9 rfl N 5 i0 Tryz.underlying36 Tryz.underlying9 hi hz0 hz1 hz2 v out.length (bvs out) rfl hownH.out ⟨#[102, 97, 108, 115, 101]⟩ rfl (by rw [hsz]; omega) (by rw [hsz]; unfold maxLen; omega) (by rw [hsz]; omega) hN ?_)
      intro g c w1 hown1 hgrow hat
      go_wp2
      go_ret
      refine ⟨_, rfl, ?_, hgrow, ?_⟩
      · rw [List.length_append, bvs_append]
        exact hown1
      · rcases hat with h | h
        · left; rw [h]; rfl
        · right; exact ⟨g, by omega, rfl⟩
    · have hsz : (⟨#[116, 114, 117, 101]⟩ : ByteArray).size = 4 := rfl
      go_enter Tryz.func198, Tryz.ntmps198
      go_wp2_with (at_builtin; refine wpList_append_string_lies rfl (.tmp 6) (.const (.string ⟨#[116, 114, 117, 101]⟩)) 36 9 rfl N 5 i0 Tryz.underlying36 Tryz.underlying9 hi hz0 hz1 hz2 v out.length (bvs out) rfl hownH.out ⟨#[116, 114, 117, 101]⟩ rfl (by rw [hsz]; omega) (by rw [hsz]; unfold maxLen; omega) (by rw [hsz]; omega) hN ?_)
      intro g c w1 hown1 hgrow hat
      go_wp2
      go_ret
      refine ⟨_, rfl, ?_, hgrow, ?_⟩
      · rw [List.length_append, bvs_append]
        exact hown1
      · rcases hat with h | h
        · left; rw [h]; rfl
        · right; exact ⟨g, by omega, rfl⟩
  have h1H := Lib.hid h1
  clear h1
  go_enter Tryz.func197, Tryz.ntmps197
  go_wp2_with (go_at_call 198; refine h1H.out.mono ?_; rintro e w2 ⟨v2, rfl, hb2⟩; have hb2H := Lib.hid hb2; clear hb2)
  go_ret
  exact ⟨v2, rfl, hb2H.out⟩
end Go.Proofs.YtokmkkkanphihaaGreatRDoor
