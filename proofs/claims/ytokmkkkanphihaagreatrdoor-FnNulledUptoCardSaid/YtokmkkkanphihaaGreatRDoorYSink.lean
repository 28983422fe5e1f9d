/- The encoder's Write: the buffer goes behind what the sink has; the buffer is empty then. -/
import Derived.Test.YtokmkkkanphihaaGreatRDoorMar2
import Derived.Deep.RegionHeld3
import Derived.Test.YtokmkkkanphihaaGreatRDoorPutC
namespace Go.Proofs.YtokmkkkanphihaaGreatRDoor
open Go.RowKit Go.Sort

/-- An encoder at e with its own row, a sink at S with its own: what is written, and what was sent. -/
structure SE (w0 : World) (N e S : Nat) (s : St) (sent : List UInt8) (w : World) : Prop where
  both : ∃ bb v, Enc w N e bb s ∧ w.heap[S]? = some (.cells #[v] 56 (0, 0)) ∧ w.ownsRow N 5 1 v sent.length (bvs sent) ∧ v.ownBlock ≠ some S ∧ v.ownBlock ≠ some e ∧ bb ≠ some S ∧ (∀ g, v.ownBlock = some g → bb ≠ some g)
  ne : S ≠ e
  low : N ≤ S
  tabs : Tabs N w
  kp : Kp (fun _ => False) w0 w
  base : w0.heap.size ≤ N

theorem heap_lt {w : World} {k : Nat} {o : Obj} (h : w.heap[k]? = some o) : k < w.heap.size := by
  rcases Nat.lt_or_ge k w.heap.size with h' | h'
  · exact h'
  · rw [Array.getElem?_eq_none h'] at h; cases h

/-- Behind a write: the sink has more, the buffer is empty. -/
theorem SE.sent {w0 w w1 : World} {N e S : Nat} {s : St} {sent : List UInt8} {bb : Option Nat} {v v' : Value} {g cap len : Nat} (h : SE w0 N e S s sent w) (hE : Enc w N e bb s) (hv : w.cell? ⟨e, 0, none⟩ = some (.slice (some ⟨g, 0, none⟩) len cap))
    (_hcap : cap ≤ maxLen) (hbS : bb ≠ some S) (hvb : ∀ g, v.ownBlock = some g → bb ≠ some g)
    (hve : v.ownBlock ≠ some e) (hvl : ∀ g, v.ownBlock = some g → N ≤ g ∧ g < w.heap.size)
    (h1 : w1.heap[S]? = some (.cells #[v'] 56 (0, 0))) (h2 : w1.ownsRow N 5 1 v' (sent ++ s.out).length (bvs (sent ++ s.out))) (h3 : v'.ownBlock = v.ownBlock ∨ ∃ g, w.heap.size ≤ g ∧ v'.ownBlock = some g) (h4 : v'.ownBlock ≠ some S)
    (hk : Kp (fun k => k = S ∨ v.ownBlock = some k) w w1) :
    SE w0 N e S { s with out := [] } (sent ++ s.out) (w1.setCell ⟨e, 0, none⟩ (.slice (some ⟨g, 0, none⟩) 0 cap)) := by
  obtain ⟨vE, hEh, ⟨hEown, hEb⟩, hEne, hNe⟩ := hE
  have hes := heap_lt hEh
  have hvE : vE = .slice (some ⟨g, 0, none⟩) len cap := by
    have : w.cell? ⟨e, 0, none⟩ = some vE := by simp [World.cell?, hEh, encCells]
    rw [hv] at this
    exact (Option.some.inj this).symm
  have hbg : bb = some g := by rw [← hEb, hvE]; rfl
  have hEl := own_lt hEown
  have hgl := hEl g (by rw [hvE]; rfl)
  have he1 : w1.heap[e]? = some (.cells (encCells vE s) 70 (0, 0)) := (hk.block e hes (fun hx => by rcases hx with hx | hx; exact h.ne hx.symm; exact hve hx)).trans hEh
  have hne : ∀ k, k ≠ e → (w1.setCell ⟨e, 0, none⟩ (.slice (some ⟨g, 0, none⟩) 0 cap)).heap[k]? = w1.heap[k]? := fun k hk => Below.heap_setCell w1 ⟨e, 0, none⟩ _ k hk
  have hgne : g ≠ e := fun hx => hEne (by rw [hbg, hx])
  have hv'e : v'.ownBlock ≠ some e := by
    rcases h3 with h | ⟨g', hg', h⟩
    · rw [h]; exact hve
    · rw [h]; intro hx; cases hx; omega
  have hg1 : w1.heap[g]? = w.heap[g]? := hk.block g hgl.2 (fun hx => by rcases hx with hx | hx; exact hbS (by rw [hbg, hx]); exact hvb g hx hbg)
  refine ⟨⟨bb, v', ⟨.slice (some ⟨g, 0, none⟩) 0 cap, ?_, ⟨?_, ?_⟩, hEne, hNe⟩, (hne S h.ne).trans h1, ⟨h2.1, ?_⟩, h4, hv'e, hbS, ?_⟩, h.ne, h.low, ?_, ?_, h.base⟩
  · simp [World.setCell, Array.getElem?_modify, he1, encCells]
  · refine ⟨rfl, .inr ?_⟩
    rcases hEown.2 with ⟨a, _⟩ | ⟨g', cap', cur, b1, b2, b3, b4, b5, b6, b7⟩
    · rw [hvE] at a; cases a
    · rw [hvE] at b1
      injection b1 with b1 b11 b12
      injection b1 with b1
      injection b1 with b1
      subst b1 b12
      refine ⟨g, cap, cur, rfl, b2, ?_, Nat.zero_le _, b5, b6, by simp [bvs]⟩
      rw [hne g hgne, hg1]
      exact b3
  · rw [hbg]; rfl
  · rcases h2.2 with a | ⟨g', cap', cur', b1, b2, b3, b4⟩
    · exact .inl a
    · refine .inr ⟨g', cap', cur', b1, b2, ?_, b4⟩
      rw [hne g' (fun hx => hv'e (by rw [b1, hx]; rfl))]
      exact b3
  · intro g' hg'
    rcases h3 with h | ⟨g2, hg2, h⟩
    · exact hvb g' (by rw [← h]; exact hg')
    · intro hx
      rw [h] at hg'
      injection hg' with hg'
      rw [hbg] at hx
      injection hx with hx
      omega
  · refine h.tabs.step (fun k hk2 => ?_) ?_
    · rw [hne k (by omega)]
      refine hk.block k (Nat.lt_of_lt_of_le hk2 h.tabs.size) (fun hx => ?_)
      rcases hx with hx | hx
      · have := h.low; omega
      · have := (hvl k hx).1; omega
    · have := hk.size; simp [World.setCell]; omega
  · have hbase := h.base
    have hlow := h.low
    refine ⟨hk.os.trans h.kp.os, hk.tape.trans h.kp.tape, hk.output.trans h.kp.output, by have := hk.size; have := h.kp.size; simp [World.setCell]; omega, fun k hk2 hx => ?_⟩
    rw [hne k (by omega), hk.block k (Nat.lt_of_lt_of_le hk2 h.kp.size) (fun hy => ?_)]
    · exact h.kp.block k hk2 hx
    · rcases hy with hy | hy
      · omega
      · have := (hvl k hy).1; omega

theorem SE.drewN {w0 w : World} {N e S : Nat} {s : St} {sent : List UInt8} (h : SE w0 N e S s sent w) (n : Nat) : SE w0 N e S s sent (w.drewN n) := by
  obtain ⟨⟨bb, v, hE, h1, h2, h3⟩, a, b, c, d, f⟩ := h
  exact ⟨⟨bb, v, hE.step (fun _ _ => rfl) (Nat.le_refl _), h1, ⟨h2.1, h2.2⟩, h3⟩, a, b, c.step (fun _ _ => rfl) (Nat.le_refl _), d.drewN n, f⟩

end Go.Proofs.YtokmkkkanphihaaGreatRDoor
