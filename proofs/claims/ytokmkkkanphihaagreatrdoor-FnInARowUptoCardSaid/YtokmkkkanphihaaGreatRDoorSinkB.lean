/- The encoder's Write: the buffer goes behind what the sink has; the buffer is empty then. -/
import Derived.Test.YtokmkkkanphihaaGreatRDoorSink
import Derived.Test.YtokmkkkanphihaaGreatRDoorPutC
namespace Go.Proofs.YtokmkkkanphihaaGreatRDoor
open Go.RowKit Go.Sort

/-- An encoder at e with its own row, a sink at S with its own: what is written, and what was sent. -/
structure SE (w0 : World) (N e S : Nat) (s : St) (sent : List UInt8) (w : World) : Prop where
  both : ∃ bb v, Enc w N e bb s ∧ w.heap[S]? = some (.cells #[v] 56 (0, 0)) ∧ w.ownsRow N 5 1 v sent.length (bvs sent) ∧ v.ownBlock ≠ some S ∧ v.ownBlock ≠ some e ∧ bb ≠ some S ∧ (∀ g, v.ownBlock = some g → bb ≠ some g)
  ne : S ≠ e
  low : N ≤ S
  tabs : Tabs N w
  kp : Kp (fun _ => False) w0 w
  base : w0.heap.size ≤ N

theorem SE.encF {w0 w : World} {N e S : Nat} {s : St} {sent : List UInt8} (h : SE w0 N e S s sent w) : ∃ bb, EncF w bb N e s w ∧ Base w bb N ∧
    (∀ w' s', EncF w bb N e s' w' → SE w0 N e S s' sent w') := by
  obtain ⟨bb, v, hE, hS, hown, h1, h2, h3, h4⟩ := h.both
  have hEo := hE
  obtain ⟨vE, hEh, ⟨hEown, hEb⟩, hEne, hNe⟩ := hEo
  have hlt := own_lt hEown
  rw [hEb] at hlt
  have hB : Base w bb N := ⟨h.tabs, fun g hg => (hlt g hg).1⟩
  refine ⟨bb, EncF.refl hE, hB, ?_⟩
  intro w' s' hF'
  have hT' := hF'.tabs hB
  obtain ⟨bb', hE', hF⟩ := hF'
  have hSs : S < w.heap.size := by
    rcases Nat.lt_or_ge S w.heap.size with h | h
    · exact h
    · rw [Array.getElem?_eq_none h] at hS; cases hS
  have hvlt := own_lt hown
  refine ⟨⟨bb', v, hE', (hF.block S hSs h.ne (Ne.symm h3)).trans hS, ⟨hown.1, ?_⟩, h1, h2, ?_, ?_⟩, h.ne, h.low, hT', ?_, h.base⟩
  · rcases hown.2 with a | ⟨g, cap, cur, b1, b2, b3, b4⟩
    · exact .inl a
    · refine .inr ⟨g, cap, cur, b1, b2, ?_, b4⟩
      have hg : v.ownBlock = some g := by rw [b1]; rfl
      rw [hF.block g (hvlt g hg).2 (fun hx => h2 (by rw [hg, hx])) (Ne.symm (h4 g hg))]
      exact b3
  · rcases hF.own with hb | ⟨g, hg, hb⟩
    · rw [hb]; exact h3
    · rw [hb]; intro hx; cases hx; omega
  · intro g hg
    rcases hF.own with hb | ⟨g', hg', hb⟩
    · rw [hb]; exact h4 g hg
    · rw [hb]
      intro hx
      cases hx
      have := (hvlt g hg).2
      omega
  · refine ⟨hF.os.trans h.kp.os, hF.tape.trans h.kp.tape, hF.output.trans h.kp.output, Nat.le_trans h.kp.size hF.size, fun k hk hx => ?_⟩
    have hbase := h.base
    rw [hF.block k (Nat.lt_of_lt_of_le hk h.kp.size) (by omega) ?_]
    · exact h.kp.block k hk hx
    · intro hy
      have := hB.own k hy.symm
      omega

theorem heap_lt {w : World} {k : Nat} {o : Obj} (h : w.heap[k]? = some o) : k < w.heap.size := by
  rcases Nat.lt_or_ge k w.heap.size with h' | h'
  · exact h'
  · rw [Array.getElem?_eq_none h'] at h; cases h

/-- Behind a write: the sink has more, the buffer is empty. -/
theorem SE.sent {w0 w w1 : World} {N e S : Nat} {s : St} {sent : List UInt8} {bb : Option Nat} {v v' : Value} {g cap len : Nat} (h : SE w0 N e S s sent w) (hE : Enc w N e bb s) (hv : w.cell? ⟨e, 0, none⟩ = some (.slice (some ⟨g, 0, none⟩) len cap))
    (_hcap : cap ≤ maxLen) (hbS : bb ≠ some S) (hvb : ∀ g, v.ownBlock = some g → bb ≠ some g)
    (hve : v.ownBlock ≠ some e) (hvl : ∀ g, v.ownBlock = some g → N ≤ g ∧ g < w.heap.size)
    (h1 : w1.heap[S]? = some (.cells #[v'] 56 (0, 0))) (h2 : w1.ownsRow N 5 1 v' (sent ++ s.out).length (bvs (sent ++ s.out))) (h3 : v'.ownBlock = v.ownBlock ∨ ∃ g, w.heap.size ≤ g ∧ v'.ownBlock = some g) (h4 : v'.ownBlock ≠ some S)
    (hk : Kp (fun k => k = S ∨ v.ownBlock = some k) w w1) :
    SE w0 N e S { s with out := [] } (sent ++ s.out) (w1.setCell ⟨e, 0, none⟩ (.slice (some ⟨g, 0, none⟩) 0 cap)) := by
  obtain ⟨vE, hEh, ⟨hEown, hEb⟩, hEne, hNe⟩ := hE
  have hes := heap_lt hEh
  have hvE : vE = .slice (some ⟨g, 0, none⟩) len cap := by
    have : w.cell? ⟨e, 0, none⟩ = some vE := by simp [World.cell?, hEh, encCells]
    rw [hv] at this
    exact (Option.some.inj this).symm
  have hbg : bb = some g := by rw [← hEb, hvE]; rfl
  have hEl := own_lt hEown
  have hgl := hEl g (by rw [hvE]; rfl)
  have he1 : w1.heap[e]? = some (.cells (encCells vE s) 70 (0, 0)) := (hk.block e hes (fun hx => by rcases hx with hx | hx; exact h.ne hx.symm; exact hve hx)).trans hEh
  have hne : ∀ k, k ≠ e → (w1.setCell ⟨e, 0, none⟩ (.slice (some ⟨g, 0, none⟩) 0 cap)).heap[k]? = w1.heap[k]? := fun k hk => Below.heap_setCell w1 ⟨e, 0, none⟩ _ k hk
  have hgne : g ≠ e := fun hx => hEne (by rw [hbg, hx])
  have hv'e : v'.ownBlock ≠ some e := by
    rcases h3 with h | ⟨g', hg', h⟩
    · rw [h]; exact hve
    · rw [h]; intro hx; cases hx; omega
  have hg1 : w1.heap[g]? = w.heap[g]? := hk.block g hgl.2 (fun hx => by rcases hx with hx | hx; exact hbS (by rw [hbg, hx]); exact hvb g hx hbg)
  refine ⟨⟨bb, v', ⟨.slice (some ⟨g, 0, none⟩) 0 cap, ?_, ⟨?_, ?_⟩, hEne, hNe⟩, (hne S h.ne).trans h1, ⟨h2.1, ?_⟩, h4, hv'e, hbS, ?_⟩, h.ne, h.low, ?_, ?_, h.base⟩
  · simp [World.setCell, Array.getElem?_modify, he1, encCells]
  · refine ⟨rfl, .inr ?_⟩
    rcases hEown.2 with ⟨a, _⟩ | ⟨g', cap', cur, b1, b2, b3, b4, b5, b6, b7⟩
    · rw [hvE] at a; cases a
    · rw [hvE] at b1
      injection b1 with b1 b11 b12
      injection b1 with b1
      injection b1 with b1
      subst b1 b12
      refine ⟨g, cap, cur, rfl, b2, ?_, Nat.zero_le _, b5, b6, by simp [bvs]⟩
      rw [hne g hgne, hg1]
      exact b3
  · rw [hbg]; rfl
  · rcases h2.2 with a | ⟨g', cap', cur', b1, b2, b3, b4⟩
    · exact .inl a
    · refine .inr ⟨g', cap', cur', b1, b2, ?_, b4⟩
      rw [hne g' (fun hx => hv'e (by rw [b1, hx]; rfl))]
      exact b3
  · intro g' hg'
    rcases h3 with h | ⟨g2, hg2, h⟩
    · exact hvb g' (by rw [← h]; exact hg')
    · intro hx
      rw [h] at hg'
      injection hg' with hg'
      rw [hbg] at hx
      injection hx with hx
      omega
  · refine h.tabs.step (fun k hk2 => ?_) ?_
    · rw [hne k (by omega)]
      refine hk.block k (Nat.lt_of_lt_of_le hk2 h.tabs.size) (fun hx => ?_)
      rcases hx with hx | hx
      · have := h.low; omega
      · have := (hvl k hx).1; omega
    · have := hk.size; simp [World.setCell]; omega
  · have hbase := h.base
    have hlow := h.low
    refine ⟨hk.os.trans h.kp.os, hk.tape.trans h.kp.tape, hk.output.trans h.kp.output, by have := hk.size; have := h.kp.size; simp [World.setCell]; omega, fun k hk2 hx => ?_⟩
    rw [hne k (by omega), hk.block k (Nat.lt_of_lt_of_le hk2 h.kp.size) (fun hy => ?_)]
    · exact h.kp.block k hk2 hx
    · rcases hy with hy | hy
      · omega
      · have := (hvl k hy).1; omega

theorem SE.drewN {w0 w : World} {N e S : Nat} {s : St} {sent : List UInt8} (h : SE w0 N e S s sent w) (n : Nat) : SE w0 N e S s sent (w.drewN n) := by
  obtain ⟨⟨bb, v, hE, h1, h2, h3⟩, a, b, c, d, f⟩ := h
  exact ⟨⟨bb, v, hE.step (fun _ _ => rfl) (Nat.le_refl _), h1, ⟨h2.1, h2.2⟩, h3⟩, a, b, c.step (fun _ _ => rfl) (Nat.le_refl _), d.drewN n, f⟩

set_option maxHeartbeats 3200000 in
set_option maxRecDepth 100000 in
theorem Write_any {w0 w : World} {N e S : Nat} {s : St} {sent : List UInt8} (h : SE w0 N e S s sent w) (hwr : s.wr = .iface 54 (.pointer (some ⟨S, 0, none⟩))) (hpos : 0 < s.out.length) (hlen : sent.length + s.out.length ≤ lim) :
    Calls Tryz.prog 68 #[.pointer (some ⟨e, 0, none⟩)] w fun ev w' => ev = .returned (.tuple #[.int .i64 (s.out.length : Int), .nilIface]) ∧ SE w0 N e S { s with out := [] } (sent ++ s.out) w' := by
  have hH := Lib.hid h
  obtain ⟨bb, v, hE, hS, hown, h1, h2, h3, h4⟩ := h.both
  have hEo := Lib.hid hE
  obtain ⟨vE, hEh, ⟨hEown, hEb⟩, hEne, hNe⟩ := hE
  have hes := heap_lt hEh
  obtain ⟨g, cap, hvE, hcap⟩ : ∃ g cap, vE = .slice (some ⟨g, 0, none⟩) s.out.length cap ∧ cap ≤ maxLen := by
    rcases hEown.2 with ⟨_, hx⟩ | ⟨g, cap, cur, b1, _, _, _, b5, _⟩
    · exfalso
      have hx' : s.out.length = 0 := by simpa using hx
      omega
    · exact ⟨g, cap, b1, b5⟩
  subst hvE
  have c0 : w.cell? ⟨e, 0, none⟩ = some (.slice (some ⟨g, 0, none⟩) s.out.length cap) := by simp [World.cell?, hEh, encCells]
  have c2 : w.cell? ⟨e, 2, none⟩ = some (.iface 54 (.pointer (some ⟨S, 0, none⟩))) := by simp [World.cell?, hEh, encCells, hwr]
  have hNs : N ≤ w.heap.size := h.tabs.size
  have hcall : ∀ W, W.heap = w.heap → W.os = w.os → W.tape = w.tape → W.output = w.output → Calls Tryz.prog 199 #[.pointer (some ⟨S, 0, none⟩), .slice (some ⟨g, 0, none⟩) s.out.length cap] W fun ev w1 => ev = .returned (.tuple #[.int .i64 (s.out.length : Int), .nilIface]) ∧
      (w1.cell? ⟨e, 0, none⟩ = some (.slice (some ⟨g, 0, none⟩) s.out.length cap) ∧ w1.cell? ⟨e, 2, none⟩ = some (.iface 54 (.pointer (some ⟨S, 0, none⟩))) ∧ w1.frozen? ⟨e, 0, none⟩ = false ∧ SE w0 N e S { s with out := [] } (sent ++ s.out) (w1.setCell ⟨e, 0, none⟩ (.slice (some ⟨g, 0, none⟩) 0 cap))) := by
    intro W hW ho ht hu
    have hownW : ∀ {n : Nat} {v : Value} {xs : List Value}, w.ownsRow N 5 1 v n xs → W.ownsRow N 5 1 v n xs := fun h => ⟨h.1, by rw [hW]; exact h.2⟩
    refine (sinkWrite (by rw [hW]; exact hS) (hownW hown) (hownW hEown) hpos h1 (by rw [hW]; exact hNs) hlen).mono ?_
    rintro ev w1 ⟨he, v', q1, q2, q3, q4, q5⟩
    have q5' : Kp (fun k => k = S ∨ v.ownBlock = some k) w w1 := ⟨q5.os.trans ho, q5.tape.trans ht, q5.output.trans hu, by rw [← hW]; exact q5.size, fun k hk hx => by rw [← hW] at hk ⊢; exact q5.block k hk hx⟩
    have he1 : w1.heap[e]? = w.heap[e]? := q5'.block e hes (fun hx => by rcases hx with hx | hx; exact h.ne hx.symm; exact h2 hx)
    refine ⟨he, (World.cell?_of_block he1).trans c0, (World.cell?_of_block he1).trans c2, ?_, SE.sent h hEo.out c0 hcap h3 h4 h2 (own_lt hown) q1 q2 (by rwa [hW] at q3) q4 q5'⟩
    rw [World.frozen?_of_block he1]
    simp [World.frozen?, hEh]
  have hcallH := Lib.hid hcall
  have hcapI : (0 : Int) ≤ (cap : Int) := by omega
  have hcapm : cap ≤ 9223372036854775807 := by unfold maxLen at hcap; exact hcap
  have hol : s.out.length ≤ 1099511627776 := Nat.le_trans (by omega) hlen
  have hwrH := Lib.hid hwr
  clear hcall h hH hS hown h1 h2 h3 h4 hEh hEown hEb hEne hNe hlen hcap hwr hEo
  generalize s.out.length = L at *
  go_enter Tryz.func68, Tryz.ntmps68
  go_wp2_with fail
  go_region_held3 (fun w' => w'.cell? ⟨e, 0, none⟩ = some (.slice (some ⟨g, 0, none⟩) L cap) ∧ w'.cell? ⟨e, 2, none⟩ = some (.iface 54 (.pointer (some ⟨S, 0, none⟩)))) (first | exact ⟨p0, p2⟩ | go_keep) (first
    | (go_at_call 199; refine (hcallH.out _ (by rfl) (by rfl) (by rfl) (by rfl)).mono ?_; rintro ev w1 ⟨rfl, p0, p2, pf, hfin⟩; have hfinH := Lib.hid hfin; clear hfin)
    )
  all_goals
    go_wp2_with fail
    go_ret2
    exact ⟨rfl, hfinH.out⟩
end Go.Proofs.YtokmkkkanphihaaGreatRDoor
