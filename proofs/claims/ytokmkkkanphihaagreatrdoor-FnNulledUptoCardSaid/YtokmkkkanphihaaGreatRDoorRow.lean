/- laws.FnInARow: true, whatever the values. -/
import Derived.Test.YtokmkkkanphihaaGreatRDoorYWrW
import Derived.Test.YtokmkkkanphihaaGreatRDoorIsW
namespace Go.Proofs.YtokmkkkanphihaaGreatRDoor
open Go.RowKit Go.Sort

mutual
theorem Good_of : ∀ (d : Nat) (v : Val), PlainV d v → ShortV v → WfV v → Good v
  | d, .mk k i r t l ks, hp, hs, hw => by
    simp only [PlainV] at hp
    simp only [WfV] at hw
    simp only [ShortV] at hs
    obtain ⟨_, p1, _, _, _, p5, p6, _, p8, p9⟩ := hp
    obtain ⟨_, w2, _, _, _, _, _, w8⟩ := hw
    simp only [Good]
    refine ⟨p1, w2, hs.1, p5, fun h => ?_, fun h => ?_, GoodL_of (d - 1) l p9 hs.2 w8⟩
    · rcases List.eq_nil_or_concat l with h0 | ⟨a, z, hz⟩
      · exact h0
      · have := p8 (by rw [hz]; simp)
        omega
    · rcases List.eq_nil_or_concat ks with h0 | ⟨a, z, hz⟩
      · exact h0
      · exact absurd (p6 (by rw [hz]; simp)) h
theorem GoodL_of : ∀ (d : Nat) (l : List Val), PlainL d l → ShortL l → WfL l → GoodL l
  | _, [], _, _, _ => by simp [GoodL]
  | d, v :: vs, hp, hs, hw => by
    simp only [PlainL] at hp
    simp only [WfL] at hw
    simp only [ShortL] at hs
    simp only [GoodL]
    exact ⟨Good_of d v hp.1 hs.1 hw.1, GoodL_of d vs hp.2 hs.2 hw.2⟩
end

theorem Tabs.grow {N M : Nat} {w : World} (h : Tabs N w) (hNM : N ≤ M) (hM : M ≤ w.heap.size) : Tabs M w := ⟨h.pow, h.tab, by have := h.g1; omega, by have := h.g2; omega, hM⟩

theorem GoodL.of : ∀ {l : List Val}, (∀ j (h : j < l.length), Good l[j]) → GoodL l
  | [], _ => by simp [GoodL]
  | v :: vs, hp => by
    simp only [GoodL]
    exact ⟨hp 0 (Nat.zero_lt_succ _), GoodL.of fun j h => hp (j + 1) (Nat.succ_lt_succ h)⟩

end Go.Proofs.YtokmkkkanphihaaGreatRDoor
