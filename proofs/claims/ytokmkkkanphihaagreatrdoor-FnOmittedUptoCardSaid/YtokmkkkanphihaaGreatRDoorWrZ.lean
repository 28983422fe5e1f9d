/- impl.Written of a value, all of it. -/
import Derived.Test.YtokmkkkanphihaaGreatRDoorWr
import Derived.Test.YtokmkkkanphihaaGreatRDoorYSink
import Derived.Test.YtokmkkkanphihaaGreatRDoorEncR
namespace Go.Proofs.YtokmkkkanphihaaGreatRDoor
open Go.RowKit Go.Sort

theorem out_cast {N M : Nat} {w : World} {T : List UInt8} {f : FuncId} {args : Array Value} (h : Calls Tryz.prog f args w (Out N w T)) (hNM : N = M) : Calls Tryz.prog f args w (Out M w T) := hNM ▸ h

end Go.Proofs.YtokmkkkanphihaaGreatRDoor
