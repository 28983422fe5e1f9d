/- prescale: what is read of the table of powers of ten. -/
import Derived.Test.YtokmkkkanphihaaGreatRDoorFtoaA
namespace Go.Proofs.YtokmkkkanphihaaGreatRDoor
open Go.RowKit

/-- What the table of powers of ten holds where it is asked here. -/
def PowAt (w : World) (p : Nat) : Prop := w.cell? ⟨2, (p + 348) * 2, none⟩ = some (.int .u64 (Fl.pm p : Nat)) ∧ w.cell? ⟨2, (p + 348) * 2 + 1, none⟩ = some (.int .u64 0)

set_option maxHeartbeats 800000 in
set_option maxRecDepth 100000 in
theorem prescale_any (c t p : Nat) (w : World) (hp : p ≤ 25) (ht : t ≤ 2000) (hlp : Fl.lp p ≤ t + 8) (htab : PowAt w p)
    (c0 : w.cell? ⟨c, 0, none⟩ = some (.int .u64 0)) (c1 : w.cell? ⟨c, 1, none⟩ = some (.int .u64 0)) (c2 : w.cell? ⟨c, 2, none⟩ = some (.int .i64 0))
    (f0 : w.frozen? ⟨c, 0, none⟩ = false) (f1 : w.frozen? ⟨c, 1, none⟩ = false) (f2 : w.frozen? ⟨c, 2, none⟩ = false) :
    Calls Tryz.prog 108 #[.pointer (some ⟨c, 0, none⟩), .int .i64 (-((t : Int) + 11)), .int .i64 (p : Int), .int .i64 (Fl.lp p : Int)] w fun e w' => e = .returned (.tuple #[]) ∧
      w' = ((w.setCell ⟨c, 0, none⟩ (.int .u64 (Fl.pm p : Nat))).setCell ⟨c, 1, none⟩ (.int .u64 0)).setCell ⟨c, 2, none⟩ (.int .i64 ((t + 8 - Fl.lp p : Nat) : Int)) := by
  obtain ⟨t0, t1⟩ := htab
  obtain ⟨l, hl⟩ : ∃ l, l = Fl.lp p := ⟨_, rfl⟩
  rw [← hl] at hlp ⊢
  obtain ⟨H, hH⟩ : ∃ H, H = Fl.pm p := ⟨_, rfl⟩
  rw [← hH] at t0 ⊢
  have hHH := Lib.hid hH
  have hlH := Lib.hid hl
  clear hH hl
  have hs : IntKind.i64.wrap (-(-((t : Int) + 11) + (l : Int) + 3)) = ((t + 8 - l : Nat) : Int) := by rw [IntKind.wrap_i64]; omega
  go_enter Tryz.func108, Tryz.ntmps108
  go_wp2
  go_end0
  exact ⟨rfl, rfl⟩

/-- Behind prescale: the scaler's three cells; what lay below it is as it was. -/
structure PreTo (w w' : World) (c H s : Nat) : Prop where
  c0 : w'.cell? ⟨c, 0, none⟩ = some (.int .u64 (H : Int))
  c1 : w'.cell? ⟨c, 1, none⟩ = some (.int .u64 0)
  c2 : w'.cell? ⟨c, 2, none⟩ = some (.int .i64 (s : Int))
  below : Below c w w'

theorem PreTo.drewN {w w' : World} {c H s : Nat} (h : PreTo w w' c H s) (n : Nat) : PreTo w (w'.drewN n) c H s :=
  ⟨by simpa using h.c0, by simpa using h.c1, by simpa using h.c2, below_drewN h.below n⟩

/-- prescale over a scaler that has just been made. -/
theorem prescale_new (t p : Nat) (w : World) (hp : p ≤ 25) (ht : t ≤ 2000) (hlp : Fl.lp p ≤ t + 8) (htab : PowAt w p) :
    Calls Tryz.prog 108 #[.pointer (some ⟨w.heap.size, 0, none⟩), .int .i64 (-((t : Int) + 11)), .int .i64 (p : Int), .int .i64 (Fl.lp p : Int)] (w.alloc (.cells #[.int .u64 0, .int .u64 0, .int .i64 0] 168)) fun e w' => e = .returned (.tuple #[]) ∧
      PreTo w w' w.heap.size (Fl.pm p) (t + 8 - Fl.lp p) := by
  have hg : 2 < w.heap.size := World.block_lt_of_cell? w _ htab.1
  have htab' : PowAt (w.alloc (.cells #[.int .u64 0, .int .u64 0, .int .i64 0] 168)) p := by
    refine ⟨?_, ?_⟩
    · rw [World.cell?_alloc_past _ _ _ hg]; exact htab.1
    · rw [World.cell?_alloc_past _ _ _ hg]; exact htab.2
  refine (prescale_any w.heap.size t p _ hp ht hlp htab' ?_ ?_ ?_ ?_ ?_ ?_).mono ?_
  · rw [World.cell?_alloc_new]; rfl
  · rw [World.cell?_alloc_new]; rfl
  · rw [World.cell?_alloc_new]; rfl
  · exact World.frozen?_alloc_new _ _ _ _
  · exact World.frozen?_alloc_new _ _ _ _
  · exact World.frozen?_alloc_new _ _ _ _
  · rintro e w' ⟨rfl, rfl⟩
    refine ⟨rfl, ?_⟩
    have hb : ((((w.alloc (.cells #[.int .u64 0, .int .u64 0, .int .i64 0] 168)).setCell ⟨w.heap.size, 0, none⟩ (.int .u64 (Fl.pm p : Nat))).setCell ⟨w.heap.size, 1, none⟩ (.int .u64 0)).setCell ⟨w.heap.size, 2, none⟩ (.int .i64 ((t + 8 - Fl.lp p : Nat) : Int))).heap[w.heap.size]? = some (.cells #[.int .u64 (Fl.pm p : Nat), .int .u64 0, .int .i64 ((t + 8 - Fl.lp p : Nat) : Int)] 168 (0, 0)) := by
      simp only [World.setCell, Array.getElem?_modify, if_pos]
      rw [heap_alloc_new w _]
      rfl
    refine ⟨?_, ?_, ?_, ?_⟩
    · simp only [World.cell?, hb]; rfl
    · simp only [World.cell?, hb]; rfl
    · simp only [World.cell?, hb]; rfl
    · exact ((((Below.refl _ _).alloc (Nat.le_refl _) _).setCell (Nat.le_refl _) _).setCell (Nat.le_refl _) _).setCell (Nat.le_refl _) _
end Go.Proofs.YtokmkkkanphihaaGreatRDoor
