/- ftoa64 at the format 'f', shortest: a double that lies above nought and below 10^15. -/
import Derived.Test.YtokmkkkanphihaaGreatRDoorFtoaE
import Derived.StillTailTactics
import Derived.Laws.Externs
import Derived.Lib.ItoaNum
import Derived.Lib.BitFns
import Derived.BigQuiet
import Derived.Deep.RegionWith
namespace Go.Proofs.YtokmkkkanphihaaGreatRDoor
open Go.RowKit Go.Sort

theorem float64bits_at (b : Nat) (w : World) : (callFunc 90 #[.float .f64 b]).run Tryz.prog w = .ok (.value (.int .u64 (b : Int))) w := by
  rw [run_callFunc_extern (e := Extern.MathFloatBits.float64bits) Tryz.func90 (by kernel_rfl) (by kernel_rfl) (by kernel_rfl) (by kernel_rfl)]
  rfl

theorem below_less {B B' : Nat} {w w' : World} (h : Below B w w') (hb : B' ≤ B) : Below B' w w' := ⟨h.os, h.tape, h.output, h.size, fun k hk => h.block k (by omega)⟩

theorem PowAt.below {w w' : World} {p B : Nat} (h : PowAt w p) (hb : Below B w w') (hB : w.heap.size ≤ B) : PowAt w' p := by
  have hg : 2 < w.heap.size := World.block_lt_of_cell? w _ h.1
  refine ⟨?_, ?_⟩
  · rw [World.cell?_of_block (hb.block _ (Nat.lt_of_lt_of_le hg hB))]; exact h.1
  · rw [World.cell?_of_block (hb.block _ (Nat.lt_of_lt_of_le hg hB))]; exact h.2

theorem bl53 (y : Nat) (h1 : 4503599627370496 ≤ y) (h2 : y < 9007199254740992) : Lib.bitLen y = 53 := by
  have e52 : (2 : Nat) ^ 52 = 4503599627370496 := by decide
  have e53 : (2 : Nat) ^ 53 = 9007199254740992 := by decide
  have e64 : (2 : Nat) ^ 64 = 18446744073709551616 := by decide
  obtain ⟨b1, b2, b3⟩ := Lib.bitLenAux_bounds 64 y (by rw [e64]; omega) (by omega)
  have hb : Lib.bitLen y = Lib.bitLenAux 64 y := rfl
  rw [hb]
  generalize Lib.bitLenAux 64 y = B at *
  have h1 : B - 1 < 53 := (Nat.pow_lt_pow_iff_right (a := 2) (by omega)).1 (Nat.lt_of_le_of_lt b2 (by rw [e53]; omega))
  have h2 : 52 < B := (Nat.pow_lt_pow_iff_right (a := 2) (by omega)).1 (Nat.lt_of_le_of_lt (by rw [e52]; omega) b3)
  omega
theorem bl53i (F : Nat) (h2 : F < 4503599627370496) : Lib.bitLen ((F : Int) + 4503599627370496).toNat = 53 := by
  have hx : ((F : Int) + 4503599627370496).toNat = F + 4503599627370496 := by omega
  exact (congrArg Lib.bitLen hx).trans (bl53 _ (by omega) (by omega))

set_option maxHeartbeats 6400000 in
set_option maxRecDepth 100000 in
theorem ftoa64_any {w : World} {N b E F t p D z L : Nat} {v : Value} {out ds txt : List UInt8} {dp pr : Int} {neg : Bool}
    (hsg : ((b : Int) / 9223372036854775808 != 0) = neg) (hex : bits BinOp.and IntKind.i64 ((b : Int) / 4503599627370496) 2047 = (E : Int)) (hma : bits BinOp.and IntKind.u64 (b : Int) 4503599627370495 = (F : Int))
    (hor : bits BinOp.or IntKind.u64 (F : Int) 4503599627370496 = (F : Int) + 4503599627370496)
    (hb : b < 18446744073709551616) (hF : F < 4503599627370496) (ht : E + t = 1075) (ht2 : 2 ≤ t) (ht3 : t < 83)
    (hsf : ∀ W x y, x = ((F : Int) + 4503599627370496) * 2048 → y = -((t : Int) + 11) → PowAt W p → Calls Tryz.prog 102 #[.int .u64 x, .int .i64 y] W fun e w' => e = .returned (.tuple #[.int .u64 (D : Int), .int .i64 (-((p : Int) - 1))]) ∧ Below W.heap.size W w')
    (htab : PowAt w p) (htab2 : Lib.TabIs Tryz.prog w "internal/strconv.uint64pow10" .u64 Lib.pow10Tab)
    (hD : Lib.decDigits D = ds ++ List.replicate z 48) (hD64 : D < 18446744073709551616) (hL : L = ds.length) (hL0 : 0 < L) (hlast : ds[L - 1]? ≠ some 48) (hp0 : 1 ≤ p) (hp : p ≤ 25)
    (hdp : dp = (L : Int) + z + -((p : Int) - 1)) (hpr : max ((L : Int) - dp) 0 = pr)
    (hfmt : ∀ W, w.heap.size < W.heap.size → W.ownsRow N 5 1 v out.length (bvs out) → DigAt W w.heap.size ds → Calls Tryz.prog 93 #[v, .bool neg, .slice (some ⟨w.heap.size, 0, none⟩) 32 32, .int .i64 dp, .int .i64 (L : Int), .int .i64 pr, .int .u8 102, .bool true] W (RetBuf W N v (out ++ txt)))
    (hown : w.ownsRow N 5 1 v out.length (bvs out)) :
    Calls Tryz.prog 84 #[v, .float .f64 b, .int .u8 102, .int .i64 (-1)] w (RetBuf w N v (out ++ txt)) := by
  have hbits := float64bits_at b
  have hlen := Tryz.bits_Len64 ((F : Int) + 4503599627370496)
  have hbl := bl53i F hF
  have hz1 : ((E : Int) == 2047) = false := by rw [beq_eq_false_iff_ne]; omega
  have hz2 : ((E : Int) == 0) = false := by rw [beq_eq_false_iff_ne]; omega
  have hz3 : ((F : Int) + 4503599627370496 == 0) = false := by rw [beq_eq_false_iff_ne]; omega
  have hlenH := Lib.hid hlen
  have hblH := Lib.hid hbl
  have hsfH := Lib.hid hsf
  have hownH := Lib.hid hown
  have htabH := Lib.hid htab
  have htab2H := Lib.hid htab2
  have hDH := Lib.hid hD
  have hlastH := Lib.hid hlast
  have hfmtH := Lib.hid hfmt
  have hLH := Lib.hid hL
  have hnd : Lib.nDigits D = L + z := by rw [← Lib.decDigits_length, hD, hL]; simp
  have hD1 : 1 ≤ D := by
    rcases Nat.eq_zero_or_pos D with h | h
    · exfalso
      subst h
      have e : Lib.decDigits 0 = [48] := by decide +kernel
      rw [e] at hD
      cases ds with
      | nil => simp at hL; omega
      | cons c ds =>
        cases ds with
        | nil => simp at hD; apply hlast; rw [hL]; simp [hD.1.symm]
        | cons c2 ds => simp at hD
    · exact h
  have hnd20 : L + z ≤ 20 := by rw [← hnd, ← Lib.decDigits_length]; exact (decDigits_len hD64).1
  have hndH := Lib.hid hnd
  have hdpH := Lib.hid hdp
  have hprH := Lib.hid hpr
  have hD64H := Lib.hid hD64
  clear hdp hpr hD64
  have hbelA : ∀ nq, Below w.heap.size w ((w.drewN nq).alloc (.cells (Array.replicate 32 (.int .u8 0)) 149)) := fun nq => (below_drewN (Below.refl w.heap.size w) nq).alloc (Nat.le_refl _) _
  have hHA : ∀ nq, Holds (fun (b : UInt8) => Value.int .u8 (b.toNat : Int)) ((w.drewN nq).alloc (.cells (Array.replicate 32 (.int .u8 0)) 149)) w.heap.size 0 (Array.replicate (L + z) 0) := by
    intro nq j hj
    rw [Array.size_replicate] at hj
    refine ⟨?_, World.frozen?_alloc_new _ _ _ _⟩
    have e := World.cell?_alloc_new (w.drewN nq) (Array.replicate 32 (Value.int .u8 0)) 149 (0 + j)
    refine e.trans ?_
    rw [Nat.zero_add]
    simp [show j < 32 by omega, hj]
  have hzz : (Array.replicate 32 (.int .u8 0) : Array Value) = #[.int .u8 0, .int .u8 0, .int .u8 0, .int .u8 0, .int .u8 0, .int .u8 0, .int .u8 0, .int .u8 0, .int .u8 0, .int .u8 0, .int .u8 0, .int .u8 0, .int .u8 0, .int .u8 0, .int .u8 0, .int .u8 0, .int .u8 0, .int .u8 0, .int .u8 0, .int .u8 0, .int .u8 0, .int .u8 0, .int .u8 0, .int .u8 0, .int .u8 0, .int .u8 0, .int .u8 0, .int .u8 0, .int .u8 0, .int .u8 0, .int .u8 0, .int .u8 0] := rfl
  rw [hzz] at hbelA hHA
  have hbelH := Lib.hid hbelA
  have hHAH := Lib.hid hHA
  clear hlen hbl hsf hown htab htab2 hD hlast hfmt hL hnd hbelA hHA hzz
  go_enter Tryz.func84, Tryz.ntmps84
  go_wp2_with fail
  go_quiet (fail)
  go_wp2_with fail
  refine (hlenH.out _ (by omega) (by omega)).mono ?_
  rintro e w1 ⟨rfl, rfl⟩
  rw [hblH.out]
  go_wp2_with fail
  refine (hsfH.out _ _ _ rfl (by omega) (htabH.out.below (hbelH.out _) (Nat.le_refl _))).mono ?_
  rintro e w1 ⟨rfl, hbel1⟩
  have hbelB : Below w.heap.size w w1 := (hbelH.out _).trans (below_less hbel1 (by simp))
  have hHB : Holds (fun (b : UInt8) => Value.int .u8 (b.toNat : Int)) w1 w.heap.size 0 (Array.replicate (L + z) 0) := by
    intro j hj
    have h1 := hHAH.out nq j hj
    have hblk := hbel1.block w.heap.size (by simp)
    refine ⟨(World.cell?_of_block hblk).trans h1.1, ?_⟩
    rw [← h1.2]
    simp only [World.frozen?, hblk]
  have htB := Lib.hid (tabIs_step hbelB.block htab2H.out)
  have hbelBH := Lib.hid hbelB
  have hHBH := Lib.hid hHB
  clear hbelB hHB hbel1
  have hnum : ∀ W : World, W.heap = w1.heap → Calls Tryz.prog 86 #[.int .u64 (D : Int)] W fun e w' => e = .returned (.int .i64 ((L : Int) + z)) ∧ w' = W := fun W h => by
    have h5 := Tryz.internal_strconv_numDigits D hD1 hD64H.out W (tabIs_step (w := w1) (fun k _ => by rw [h]) htB.out)
    rw [hndH.out] at h5
    push_cast at h5
    exact h5
  have hnumH := Lib.hid hnum
  have hset : ∀ W : World, W.heap = w1.heap → W.os = w1.os → W.tape = w1.tape → W.output = w1.output → Calls Tryz.prog 96 #[.slice (some ⟨w.heap.size, 0, none⟩) 32 32, .int .u64 (D : Int), .int .i64 (-((p : Int) - 1)), .int .i64 ((L : Int) + z)] W fun e w' => e = .returned (.tuple #[.int .i64 ((L : Int) + z + -((p : Int) - 1)), .int .i64 (L : Int)]) ∧ DigTo w1.drew w' w.heap.size ds := fun W h o1 o2 o3 => by
    have h5 := setDigits_any w.heap.size D z L (L + z) (-((p : Int) - 1)) ds W hLH.out hL0 rfl (by omega) hD64H.out hDH.out hlastH.out (by omega) (by omega) (fun j hj => ⟨by rw [← (hHBH.out j hj).1]; exact World.cell?_of_block (by rw [h]), by rw [← (hHBH.out j hj).2]; exact World.frozen?_of_block (by rw [h])⟩)
    push_cast at h5
    refine h5.mono ?_
    rintro e w' ⟨h6, h7⟩
    exact ⟨h6, h7.cells, h7.below.os.trans o1, h7.below.tape.trans o2, h7.below.output.trans o3, by have := h7.below.size; rw [h] at this; exact this, fun k hk => by rw [h7.below.block k hk, h]; rfl⟩
  have hsetH := Lib.hid hset
  have hnd64 : (L : Int) + z ≤ 32 := by omega
  clear hnum hset
  go_wp2_with fail
  go_region_with (first
    | (go_at_call 86; refine (hnumH.out _ (by rfl)).mono ?_; rintro e w2 ⟨rfl, rfl⟩)
    | (go_at_call 96; refine (hsetH.out _ (by rfl) (by rfl) (by rfl) (by rfl)).mono ?_; rintro e w2 ⟨rfl, hD2⟩; have hD2H := Lib.hid hD2; clear hD2))
  have hprs := hprH.out
  have hdps := hdpH.out
  rw [hdps] at hprs
  have hprsH := Lib.hid hprs
  have hfm : ∀ W, Below w.heap.size w W → w.heap.size < W.heap.size → DigTo w1.drew W w.heap.size ds → Calls Tryz.prog 93 #[v, .bool neg, .slice (some ⟨w.heap.size, 0, none⟩) 32 32, .int .i64 ((L : Int) + z + -((p : Int) - 1)), .int .i64 (L : Int), .int .i64 pr, .int .u8 102, .bool true] W (RetBuf W N v (out ++ txt)) := by
    intro W h1 h2 h3
    have h5 := hfmtH.out W h2 (ownsRow_step h1.block hownH.out) h3.cells
    rw [hdps] at h5
    exact h5
  have hfmH := Lib.hid hfm
  clear hprs hdps hfm
  go_wp2_with fail
  rw [hprsH.out]
  have hbl := hD2H.out.below
  have hbelW : Below w.heap.size w w2 := hbelBH.out.trans ⟨hbl.os, hbl.tape, hbl.output, hbl.size, hbl.block⟩
  have hszW : w.heap.size < w2.heap.size := by
    have h1 := World.block_lt_of_cell? _ _ (hHBH.out 0 (by simp; omega)).1
    exact Nat.lt_of_lt_of_le h1 hbl.size
  refine (hfmH.out w2 hbelW hszW hD2H.out).mono ?_
  rintro e w3 ⟨v3, rfl, hB3⟩
  go_wp2
  go_ret
  exact ⟨v3, rfl, BufTo.pre hbelW.block hbelW.size hbelW.os hbelW.tape hbelW.output hB3⟩
end Go.Proofs.YtokmkkkanphihaaGreatRDoor
