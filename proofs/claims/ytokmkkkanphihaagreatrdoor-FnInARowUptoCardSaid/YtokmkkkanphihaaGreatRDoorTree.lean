/- tree.IsNil, and the values that a tree is written from. -/
import Derived.Test.YtokmkkkanphihaaGreatRDoorMethA
namespace Go.Proofs.YtokmkkkanphihaaGreatRDoor
open Go.RowKit Go.Sort

/-- The tree that writes the value at a. -/
def treeV (b o : Nat) (way : Int) : Value := .agg #[.pointer (some ⟨b, o, none⟩), .int .i64 way]

set_option maxHeartbeats 800000 in
theorem IsNil_any {w : World} {b o n c : Nat} {ao : Option Addr} (way : Int) (h : w.cell? ⟨b, o + 4, none⟩ = some (.slice ao n c)) :
    Calls Tryz.prog 144 #[treeV b o way] w fun e w' => e = .returned (.bool (n == 0)) ∧ ∃ x, w' = w.alloc x := by
  have hb : b < w.heap.size := World.block_lt_of_cell? w _ h
  have hA : ∀ x, (w.alloc x).cell? ⟨b, o + 4, none⟩ = some (.slice ao n c) := fun x => by rw [World.cell?_alloc_past _ _ _ hb]; exact h
  unfold treeV
  clear h
  go_enter Tryz.func144, Tryz.ntmps144
  go_wp2
  go_ret
  exact ⟨congrArg (fun x => Ending.returned (.bool x)) (by rw [Bool.eq_iff_iff]; simp), _, rfl⟩
end Go.Proofs.YtokmkkkanphihaaGreatRDoor
