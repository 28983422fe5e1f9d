/- What impl.put and impl.putKey write of a value, by induction. -/
import Derived.Test.YtokmkkkanphihaaGreatRDoorYVal
import Derived.Test.YtokmkkkanphihaaGreatRDoorPutA
import Derived.Test.YtokmkkkanphihaaGreatRDoorPutL
namespace Go.Proofs.YtokmkkkanphihaaGreatRDoor
open Go.RowKit Go.Sort

mutual
def vsz : Val → Nat
  | .mk _ _ _ _ l _ => 1 + vszL l
def vszL : List Val → Nat
  | [] => 0
  | v :: vs => vsz v + vszL vs
end

theorem vszL_at : ∀ {l : List Val} (j : Nat) (h : j < l.length), vsz l[j] ≤ vszL l
  | [], j, h => by simp at h
  | v :: vs, 0, _ => by simp [vszL]
  | v :: vs, j + 1, h => by
    have := vszL_at (l := vs) j (by simpa using h)
    simp [vszL]; omega

theorem vszL_len : ∀ l : List Val, l.length ≤ vszL l
  | [] => by simp
  | .mk k i r t a b :: vs => by
    have := vszL_len vs
    simp [vszL, vsz]; omega

mutual
theorem vsz_cost : ∀ v : Val, vsz v ≤ cost v
  | .mk k i r t l ks => by
    have := vszL_cost l
    simp only [vsz, cost]; omega
theorem vszL_cost : ∀ l : List Val, vszL l ≤ costL l
  | [] => by simp [vszL]
  | v :: vs => by
    have h1 := vsz_cost v
    have h2 := vszL_cost vs
    simp only [vszL, costL]; omega
end

theorem sep_a {c op : UInt8} (h : c = op) : sepT c op = [] := by unfold sepT; rw [if_pos h]
theorem sep_b {c op : UInt8} (h : c ≠ op) : sepT c op = [44] := by unfold sepT; rw [if_neg h]

end Go.Proofs.YtokmkkkanphihaaGreatRDoor
