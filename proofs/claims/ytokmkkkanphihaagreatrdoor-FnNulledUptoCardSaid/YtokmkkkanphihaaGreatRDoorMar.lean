/- gojay.MarshalJSONArray and MarshalJSONObject, gojay.Marshal: what they hand back. -/
import Derived.Test.YtokmkkkanphihaaGreatRDoorPutB
import Derived.Defers
import Derived.Deep.RegionWith
import Derived.Deep.DeepFit
namespace Go.Proofs.YtokmkkkanphihaaGreatRDoor
open Go.RowKit Go.Sort

/-- A new encoder. -/
def st0 (wr : Value) : St := ⟨[], false, .slice none 0 0, wr⟩

set_option maxHeartbeats 800000 in
theorem NewEncoder_nil (w : World) :
    Calls Tryz.prog 25 #[.nilIface] w fun ev w' => ev = .returned (.pointer (some ⟨w.heap.size, 0, none⟩)) ∧ w' = w.alloc (.cells #[.slice none 0 0, .int .u8 0, .nilIface, .nilIface, .bool false, .slice none 0 0] 70) := by
  go_enter Tryz.func25, Tryz.ntmps25
  go_wp2
  go_ret
  exact ⟨rfl, rfl⟩

set_option maxHeartbeats 1600000 in
set_option maxRecDepth 100000 in
theorem BorrowEncoder_any (w : World) :
    Calls Tryz.prog 29 #[.nilIface] w fun ev w' => ev = .returned (.pointer (some ⟨w.heap.size, 0, none⟩)) ∧ w' = w.alloc (.cells #[.slice none 0 0, .int .u8 0, .nilIface, .nilIface, .bool false, .slice none 0 0] 70) := by
  go_enter Tryz.func29, Tryz.ntmps29
  go_wp2_with (go_at_call 25; refine (NewEncoder_nil _).mono ?_; rintro ev w2 ⟨rfl, rfl⟩)
  go_ret
  exact ⟨rfl, rfl⟩
end Go.Proofs.YtokmkkkanphihaaGreatRDoor
