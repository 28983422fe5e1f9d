/- The deferred closures of gojay.Marshal and its kin. -/
import Derived.Test.YtokmkkkanphihaaGreatRDoorMar
import Derived.Test.YtokmkkkanphihaaGreatRDoorEncR
import Derived.RegionTactic
import Derived.ChangeAlike
import Derived.Recover
namespace Go.Proofs.YtokmkkkanphihaaGreatRDoor
open Go.RowKit Go.Sort

/-- From w to w' nothing has turned that lay before, but the blocks X. -/
structure Kp (X : Nat → Prop) (w w' : World) : Prop where
  os : w'.os = w.os
  tape : w'.tape = w.tape
  output : w'.output = w.output
  size : w.heap.size ≤ w'.heap.size
  block : ∀ k, k < w.heap.size → ¬ X k → w'.heap[k]? = w.heap[k]?

theorem Kp.refl (X : Nat → Prop) (w : World) : Kp X w w := ⟨rfl, rfl, rfl, Nat.le_refl _, fun _ _ _ => rfl⟩
theorem Kp.trans {X : Nat → Prop} {w0 w1 w2 : World} (h : Kp X w0 w1) (k : Kp X w1 w2) : Kp X w0 w2 :=
  ⟨k.os.trans h.os, k.tape.trans h.tape, k.output.trans h.output, Nat.le_trans h.size k.size, fun i hi hx => (k.block i (Nat.lt_of_lt_of_le hi h.size) hx).trans (h.block i hi hx)⟩
theorem Kp.mono {X Y : Nat → Prop} {w w' : World} (h : Kp X w w') (hxy : ∀ k, k < w.heap.size → X k → Y k) : Kp Y w w' :=
  ⟨h.os, h.tape, h.output, h.size, fun k hk hy => h.block k hk fun hx => hy (hxy k hk hx)⟩
theorem Kp.alloc {X : Nat → Prop} {w w' : World} (h : Kp X w w') (o : Obj) : Kp X w (w'.alloc o) :=
  ⟨h.os, h.tape, h.output, by have := h.size; simp; omega, fun k hk hx => (heap_alloc_old w' o k (Nat.lt_of_lt_of_le hk h.size)).trans (h.block k hk hx)⟩
theorem Kp.drew {X : Nat → Prop} {w w' : World} (h : Kp X w w') : Kp X w w'.drew := ⟨h.os, h.tape, h.output, h.size, h.block⟩
theorem Kp.drewN {X : Nat → Prop} {w w' : World} (h : Kp X w w') (n : Nat) : Kp X w (w'.drewN n) := ⟨h.os, h.tape, h.output, h.size, h.block⟩
theorem Kp.setCell {X : Nat → Prop} {w w' : World} (h : Kp X w w') (b o : Nat) (v : Value) (hb : X b ∨ w.heap.size ≤ b) : Kp X w (w'.setCell ⟨b, o, none⟩ v) := by
  refine ⟨h.os, h.tape, h.output, by have := h.size; simp [World.setCell]; omega, fun k hk hx => ?_⟩
  have hne : k ≠ b := by
    rintro rfl
    rcases hb with hb | hb
    · exact hx hb
    · omega
  exact (Below.heap_setCell w' ⟨b, o, none⟩ v k hne).trans (h.block k hk hx)

/-- The row of 512 bytes that a pooled encoder gets. -/
def mk512 : Obj := .cells (Array.replicate 512 (.int .u8 0)) 5
theorem make512 (w : World) : (Instr.makeSlice 36 (.int .i64 0) (.int .i64 512)).run Tryz.prog w = .ok (.slice (some ⟨w.heap.size, 0, none⟩) 0 512) (w.alloc mk512) := by kernel_rfl

theorem old_lt {w : World} {b o : Nat} {v : Value} (h : w.cell? ⟨b, o, none⟩ = some v) : b < w.heap.size := World.block_lt_of_cell? w _ h

set_option maxHeartbeats 1600000 in
set_option maxRecDepth 100000 in
theorem Release_any {w : World} {e : Nat} {v : Value} (h1 : w.cell? ⟨e, 1, none⟩ = some v) (f1 : w.frozen? ⟨e, 1, none⟩ = false) :
    Calls Tryz.prog 33 #[.pointer (some ⟨e, 0, none⟩)] w fun ev w' => ev = .returned (.tuple #[]) ∧ w' = w.setCell ⟨e, 1, none⟩ (.int .u8 1) := by
  go_enter Tryz.func33, Tryz.ntmps33
  go_wp2
  go_end0
  exact ⟨rfl, rfl⟩

set_option maxHeartbeats 1600000 in
set_option maxRecDepth 100000 in
theorem closeA {w : World} {E e : Nat} {v v1 : Value} (h : w.cell? ⟨E, 0, none⟩ = some (.pointer (some ⟨e, 0, none⟩))) (h0 : w.cell? ⟨e, 0, none⟩ = some v) (h1 : w.cell? ⟨e, 1, none⟩ = some v1) (fz : ∀ i, w.frozen? ⟨e, i, none⟩ = false) (hne : E ≠ e) :
    CallsD Tryz.prog 32 #[.pointer (some ⟨E, 0, none⟩)] .returning w fun ev u' w' => u' = .returning ∧ (ev = .returned (.tuple #[]) ∧ Kp (fun k => k = e) w w') := by
  have f0 := fz 0
  have f1 := fz 1
  have hEs := old_lt h
  have hes := old_lt h0
  have hmk := make512
  have g0 : ∀ x, (w.alloc x).cell? ⟨e, 0, none⟩ = some v := fun x => by rw [World.cell?_alloc_past _ _ _ hes]; exact h0
  have g1 : ∀ x, (w.alloc x).cell? ⟨e, 1, none⟩ = some v1 := fun x => by rw [World.cell?_alloc_past _ _ _ hes]; exact h1
  have gE : ∀ x, (w.alloc x).cell? ⟨E, 0, none⟩ = some (.pointer (some ⟨e, 0, none⟩)) := fun x => by rw [World.cell?_alloc_past _ _ _ hEs]; exact h
  clear fz
  go_enter_d Tryz.func32, Tryz.ntmps32
  go_wp2_with fail
  go_region
  go_wp2_with fail
  have p1 : ∀ o, (((w.setCell ⟨e, 0, none⟩ (.slice (some ⟨w.heap.size, 0, none⟩) 0 512)).alloc o).drew).cell? ⟨e, 1, none⟩ = some v1 := fun o => by
    rw [World.cell?_drew, World.cell?_alloc_past _ _ _ (by simp [World.setCell]; exact hes), World.cell?_setCell_other _ _ _ _ (by simp)]; exact h1
  have p2 : ∀ o, (((w.setCell ⟨e, 0, none⟩ (.slice (some ⟨w.heap.size, 0, none⟩) 0 512)).alloc o).drew).frozen? ⟨e, 1, none⟩ = false := fun o => by
    rw [World.frozen?_drew, World.frozen?_alloc_past _ _ _ (by simp [World.setCell]; exact hes), World.frozen?_setCell]; exact f1
  refine (Release_any (v := v1) (p1 _) (p2 _)).mono ?_
  rintro ev w2 ⟨rfl, rfl⟩
  go_wp2_with fail
  go_end0
  exact ⟨rfl, ((((Kp.refl (fun k => k = e) w).setCell e 0 _ (.inl rfl)).setCell e 1 _ (.inl rfl)).alloc mk512).drew⟩

set_option maxHeartbeats 1600000 in
set_option maxRecDepth 100000 in
theorem closeO {w : World} {E e : Nat} {v v1 : Value} (h : w.cell? ⟨E, 0, none⟩ = some (.pointer (some ⟨e, 0, none⟩))) (h0 : w.cell? ⟨e, 0, none⟩ = some v) (h1 : w.cell? ⟨e, 1, none⟩ = some v1) (fz : ∀ i, w.frozen? ⟨e, i, none⟩ = false) (hne : E ≠ e) :
    CallsD Tryz.prog 34 #[.pointer (some ⟨E, 0, none⟩)] .returning w fun ev u' w' => u' = .returning ∧ (ev = .returned (.tuple #[]) ∧ Kp (fun k => k = e) w w') := by
  have f0 := fz 0
  have f1 := fz 1
  have hEs := old_lt h
  have hes := old_lt h0
  have hmk := make512
  have g0 : ∀ x, (w.alloc x).cell? ⟨e, 0, none⟩ = some v := fun x => by rw [World.cell?_alloc_past _ _ _ hes]; exact h0
  have g1 : ∀ x, (w.alloc x).cell? ⟨e, 1, none⟩ = some v1 := fun x => by rw [World.cell?_alloc_past _ _ _ hes]; exact h1
  have gE : ∀ x, (w.alloc x).cell? ⟨E, 0, none⟩ = some (.pointer (some ⟨e, 0, none⟩)) := fun x => by rw [World.cell?_alloc_past _ _ _ hEs]; exact h
  clear fz
  go_enter_d Tryz.func34, Tryz.ntmps34
  go_wp2_with fail
  go_region
  go_wp2_with fail
  have p1 : ∀ o, (((w.setCell ⟨e, 0, none⟩ (.slice (some ⟨w.heap.size, 0, none⟩) 0 512)).alloc o).drew).cell? ⟨e, 1, none⟩ = some v1 := fun o => by
    rw [World.cell?_drew, World.cell?_alloc_past _ _ _ (by simp [World.setCell]; exact hes), World.cell?_setCell_other _ _ _ _ (by simp)]; exact h1
  have p2 : ∀ o, (((w.setCell ⟨e, 0, none⟩ (.slice (some ⟨w.heap.size, 0, none⟩) 0 512)).alloc o).drew).frozen? ⟨e, 1, none⟩ = false := fun o => by
    rw [World.frozen?_drew, World.frozen?_alloc_past _ _ _ (by simp [World.setCell]; exact hes), World.frozen?_setCell]; exact f1
  refine (Release_any (v := v1) (p1 _) (p2 _)).mono ?_
  rintro ev w2 ⟨rfl, rfl⟩
  go_wp2_with fail
  go_end0
  exact ⟨rfl, ((((Kp.refl (fun k => k = e) w).setCell e 0 _ (.inl rfl)).setCell e 1 _ (.inl rfl)).alloc mk512).drew⟩

end Go.Proofs.YtokmkkkanphihaaGreatRDoor
