/- gojay.Marshal of a plain value: the row of bytes that it hands back (written by genMa.py). -/
import Derived.Test.YtokmkkkanphihaaGreatRDoorMar3
namespace Go.Proofs.YtokmkkkanphihaaGreatRDoor
open Go.RowKit Go.Sort

theorem Tabs.up {N : Nat} {w : World} (h : Tabs N w) (o : Obj) : Tabs (w.alloc o).heap.size (w.alloc o) := by
  have h1 := h.step (fun k hk => heap_alloc_old w o k (Nat.lt_of_lt_of_le hk h.size)) (by simp)
  exact ⟨h1.pow, h1.tab, Nat.lt_of_lt_of_le h1.g1 h1.size, Nat.lt_of_lt_of_le h1.g2 h1.size, Nat.le_refl _⟩

end Go.Proofs.YtokmkkkanphihaaGreatRDoor
