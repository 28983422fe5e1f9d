/- setDigits: a numeral, without the noughts at its end. -/
import Derived.Test.YtokmkkkanphihaaGreatRDoorFtoaC
import Derived.Lib.OwnBridge
namespace Go.Proofs.YtokmkkkanphihaaGreatRDoor
open Go.RowKit Go.Sort

/-- Behind setDigits: the digits stand in the buffer; what lay below it is as it was. -/
structure DigTo (w w' : World) (blk : Nat) (ds : List UInt8) : Prop where
  cells : ∀ j (h : j < ds.length), w'.cell? ⟨blk, j, none⟩ = some (.int .u8 (ds[j].toNat : Int))
  below : Below blk w w'

theorem DigTo.drewN {w w' : World} {blk : Nat} {ds : List UInt8} (h : DigTo w w' blk ds) (n : Nat) : DigTo w (w'.drewN n) blk ds :=
  ⟨fun j hj => by rw [World.cell?_drewN]; exact h.cells j hj, below_drewN h.below n⟩

set_option maxHeartbeats 1600000 in
set_option maxRecDepth 100000 in
theorem setDigits_any (blk u z L n : Nat) (p : Int) (ds : List UInt8) (w : World) (hL : L = ds.length) (hL0 : 0 < L) (hn : n = L + z) (hn32 : n ≤ 32) (hu64 : u < 18446744073709551616)
    (hds : Lib.decDigits u = ds ++ List.replicate z 48) (hlast : ds[L - 1]? ≠ some 48) (hp0 : -1000000 ≤ p) (hp1 : p ≤ 1000000)
    (hrow : Holds (fun (b : UInt8) => Value.int .u8 (b.toNat : Int)) w blk 0 (Array.replicate n 0)) :
    Calls Tryz.prog 96 #[.slice (some ⟨blk, 0, none⟩) 32 32, .int .u64 (u : Int), .int .i64 p, .int .i64 (n : Int)] w fun e w' => e = .returned (.tuple #[.int .i64 ((n : Int) + p), .int .i64 (L : Int)]) ∧ DigTo w w' blk ds := by
  have hlen : (Lib.decDigits u).length = n := by rw [hds, hn, hL]; simp
  have hnd : Lib.nDigits u = n := by rw [← hlen, Lib.decDigits_length]
  have hfmt := Tryz.internal_strconv_formatBase10 blk 0 32 u (Array.replicate n 0) w hrow (by rw [Array.size_replicate, ← hnd]; exact Lib.lt_pow_nDigits u) hu64 (by rw [Array.size_replicate]; omega)
  rw [Array.size_replicate] at hfmt
  have hfmt2 : Calls Tryz.prog 87 #[.slice (some ⟨blk, 0, none⟩) n 32, .int .u64 u] w fun e w' => e = .returned (.tuple #[]) ∧ DigTo w w' blk (Lib.decDigits u) := by
    refine hfmt.mono ?_
    rintro e w' ⟨rfl, k, v', dk, rfl, hF⟩
    rw [← hnd] at hF
    refine ⟨rfl, ?_, ?_⟩
    · intro j hj
      rw [Lib.row_is_numeral hF j hj, World.cell?_drewN]
      have h5 := cell?_putRow (fun (b : UInt8) => Value.int .u8 (b.toNat : Int)) w blk 0 _ dk hrow (by rw [hF.size, Array.size_replicate, hnd]) j (by rw [hF.size, hnd, ← hlen]; exact hj)
      simpa using h5
    · refine below_drewN ?_ k
      have h5 := Lib.below_putRow (enc := fun (b : UInt8) => Value.int .u8 (b.toNat : Int)) (q := 0) (d := dk) (Below.refl blk w) (Nat.le_refl blk)
      rw [ahead_zero] at h5
      exact h5
  obtain ⟨f, hf⟩ : ∃ f : Nat → UInt8, ∀ j, f j = (Lib.decDigits u)[j]! := ⟨fun j => (Lib.decDigits u)[j]!, fun _ => rfl⟩
  have hcell : ∀ W, DigTo w W blk (Lib.decDigits u) → ∀ j, j < n → W.cell? ⟨blk, j, none⟩ = some (.int .u8 ((f j).toNat : Int)) := by
    intro W hW j hj
    rw [hf, hW.cells j (by rw [hlen]; exact hj), getElem!_pos (Lib.decDigits u) j]
  have hz : ∀ j, L ≤ j → j < n → f j = 48 := by
    intro j h1 h2
    rw [hf, getElem!_pos (Lib.decDigits u) j (by rw [hlen]; exact h2)]
    simp only [hds]
    rw [List.getElem_append_right (by omega)]
    simp
  have hnz : (((f (L - 1)).toNat : Int) == 48) = false := by
    rw [beq_eq_false_iff_ne]
    intro hc
    apply hlast
    have h1 : L - 1 < (Lib.decDigits u).length := by rw [hlen]; omega
    rw [hf, getElem!_pos (Lib.decDigits u) (L - 1) h1] at hc
    have h2 : (Lib.decDigits u)[L - 1] = 48 := UInt8.toNat_inj.1 (by show _ = 48; omega)
    simp only [hds] at h2
    rw [List.getElem_append_left (by omega)] at h2
    rw [List.getElem?_eq_getElem (by omega), h2]
  have hdsl : ∀ W, DigTo w W blk (Lib.decDigits u) → DigTo w W blk ds := by
    intro W hW
    refine ⟨fun j hj => ?_, hW.below⟩
    rw [hW.cells j (by rw [hlen]; omega)]
    simp only [hds]
    rw [List.getElem_append_left hj]
  have hfmtH := Lib.hid hfmt2
  have hcellH := Lib.hid hcell
  have hzH := Lib.hid hz
  have hdslH := Lib.hid hdsl
  clear hf
  generalize Lib.decDigits u = ds' at *
  clear hfmt hfmt2 hcell hz hdsl hlen hnd hrow hlast hds hL
  subst hn
  go_enter Tryz.func96, Tryz.ntmps96
  go_wp2_with (go_at_call 87; refine hfmtH.out.mono ?_; rintro e w' ⟨rfl, hD⟩)
  go_loopw [3] (fun i wr => ∃ q : Nat, q ≤ z ∧ i = .int .i64 ((L : Int) + q) ∧ DigTo w wr blk ds') (fun i _ => (intOf i).toNat)
  case atStart => exact ⟨z, Nat.le_refl _, rfl, hD⟩
  case round =>
    obtain ⟨q, hq, rfl, hE⟩ := hrel
    have hoff : ((L : Int) + q - 1).toNat = L + q - 1 := by omega
    have hc := hcellH.out _ hE (L + q - 1) (by omega)
    rcases Nat.eq_zero_or_pos q with h0 | h0
    · subst h0
      rw [Nat.add_zero] at hc hoff
      go_wp2
      go_ret2
      exact ⟨by simp, hdslH.out _ hE⟩
    · rw [hzH.out (L + q - 1) (by omega) (by omega)] at hc
      go_wp2
      go_roundw
      case rel => exact ⟨q - 1, by omega, by go_num, hE⟩
      case measure => simp [intOf]; omega
end Go.Proofs.YtokmkkkanphihaaGreatRDoor
