/- impl.sink, the encoder's Write: what is written goes behind what was. -/
import Derived.Test.YtokmkkkanphihaaGreatRDoorMar2
import Derived.Deep.RegionHeld3
import Derived.Test.YtokmkkkanphihaaGreatRDoorPutC
import Derived.Test.YtokmkkkanphihaaGreatRDoorEncR
import Derived.Test.YtokmkkkanphihaaGreatRDoorWr
namespace Go.Proofs.YtokmkkkanphihaaGreatRDoor
open Go.RowKit Go.Sort

def sinkObj (v : Value) : Obj := .cells #[v] 56

theorem grown_kp {w w1 : World} {bb : Option Nat} (h : w.grownBy w1 bb) : Kp (fun k => bb = some k) w w1 :=
  ⟨h.os, h.tape, h.output, h.size, fun k hk hx => h.block k hk (fun hy => hx hy.symm)⟩

set_option maxHeartbeats 1600000 in
set_option maxRecDepth 100000 in
theorem sinkWrite {w : World} {N S : Nat} {v u : Value} {out T : List UInt8} (hS : w.heap[S]? = some (.cells #[v] 56 (0, 0))) (hown : w.ownsRow N 5 1 v out.length (bvs out)) (hsrc : w.ownsRow N 5 1 u T.length (bvs T))
    (hT : 0 < T.length) (hvS : v.ownBlock ≠ some S) (hN : N ≤ w.heap.size) (hlen : out.length + T.length ≤ lim) :
    Calls Tryz.prog 199 #[.pointer (some ⟨S, 0, none⟩), u] w fun ev w' => ev = .returned (.tuple #[.int .i64 (T.length : Int), .nilIface]) ∧
      ∃ v', w'.heap[S]? = some (.cells #[v'] 56 (0, 0)) ∧ w'.ownsRow N 5 1 v' (out ++ T).length (bvs (out ++ T)) ∧ (v'.ownBlock = v.ownBlock ∨ ∃ g, w.heap.size ≤ g ∧ v'.ownBlock = some g) ∧ v'.ownBlock ≠ some S ∧ Kp (fun k => k = S ∨ v.ownBlock = some k) w w' := by
  obtain ⟨i0, hi, hz0, hz1, hz2⟩ := info_parts info_u8
  have hlen' : out.length + T.length ≤ 1099511627776 := hlen
  have hSs : S < w.heap.size := by
    rcases Nat.lt_or_ge S w.heap.size with h | h
    · exact h
    · rw [Array.getElem?_eq_none h] at hS; cases hS
  have c0 : w.cell? ⟨S, 0, none⟩ = some v := by simp [World.cell?, hS]
  have f0 : w.frozen? ⟨S, 0, none⟩ = false := by simp [World.frozen?, hS]
  obtain ⟨gs, cs, hu⟩ : ∃ gs cs, u = .slice (some ⟨gs, 0, none⟩) T.length cs := by
    rcases hsrc.2 with ⟨_, hx⟩ | ⟨g, cap, cur, b1, _⟩
    · exfalso
      have hx' : T.length = 0 := by simpa using hx
      omega
    · exact ⟨g, cap, b1⟩
  have hcells := hsrc.cells (g := gs) (by rw [hu]; rfl)
  subst hu
  have hcH := Lib.hid hcells
  have hSH := Lib.hid hS
  have hvSH := Lib.hid hvS
  have hTl : (bvs T).length = T.length := bvs_length T
  have hTlH := Lib.hid hTl
  have hownH := Lib.hid hown
  clear hcells hS hvS hlen hsrc hTl hown
  go_enter Tryz.func199, Tryz.ntmps199
  go_wp2_with (at_builtin; refine wpList_append_lies _ rfl (.tmp 10) (.tmp 11) 36 rfl N 5 i0 (.int .u8 0) 1 1 Tryz.underlying36 hi hz0 hz1 hz2 rfl (by omega) v out.length (bvs out) rfl hownH.out ⟨gs, 0, none⟩ T.length cs (bvs T) rfl ?c0 ?c1 ?c2 hT ?c3 ?c4 hN (w.heap.size) rfl ?next)
  case c0 => rw [hTlH.out]; omega
  case c1 => exact hcH.out
  case c2 =>
    intro u hu
    simp only [bvs, List.mem_map] at hu
    obtain ⟨b, _, rfl⟩ := hu
    rfl
  case c3 => unfold maxLen; omega
  case c4 => omega
  case next =>
    intro g cap w1 hown1 hgrow hat hlt
    have hgne : g ≠ S := by
      rcases hat with hx | hx
      · intro h; apply hvSH.out; rw [hx, h]
      · omega
    have hb1 : w1.heap[S]? = some (.cells #[v] 56 (0, 0)) := (hgrow.block S hSs (fun h => hvSH.out h.symm)).trans hSH.out
    have k0 : w1.cell? ⟨S, 0, none⟩ = some v := by simp [World.cell?, hb1]
    have e0 : w1.frozen? ⟨S, 0, none⟩ = false := by simp [World.frozen?, hb1]
    have hfin : ∃ v', (w1.setCell ⟨S, 0, none⟩ (.slice (some ⟨g, 0, none⟩) (out.length + T.length) cap)).heap[S]? = some (.cells #[v'] 56 (0, 0)) ∧ (w1.setCell ⟨S, 0, none⟩ (.slice (some ⟨g, 0, none⟩) (out.length + T.length) cap)).ownsRow N 5 1 v' (out ++ T).length (bvs (out ++ T)) ∧ (v'.ownBlock = v.ownBlock ∨ ∃ g, w.heap.size ≤ g ∧ v'.ownBlock = some g) ∧ v'.ownBlock ≠ some S ∧ Kp (fun k => k = S ∨ v.ownBlock = some k) w (w1.setCell ⟨S, 0, none⟩ (.slice (some ⟨g, 0, none⟩) (out.length + T.length) cap)) := by
      refine ⟨.slice (some ⟨g, 0, none⟩) (out.length + T.length) cap, ?_, ?_, ?_, ?_, ?_⟩
      · simp [World.setCell, Array.getElem?_modify, hb1]
      · rw [bvs_append, List.length_append]
        refine ⟨hown1.1, ?_⟩
        rcases hown1.2 with a | ⟨g', cap', cur', b1, b2, b3, b4⟩
        · exact .inl a
        · refine .inr ⟨g', cap', cur', b1, b2, ?_, b4⟩
          have hgg : g' = g := by injection b1 with b1; injection b1 with b1; injection b1 with b1; exact b1.symm
          rw [Below.heap_setCell w1 ⟨S, 0, none⟩ _ g' (by rw [hgg]; exact hgne)]
          exact b3
      · rcases hat with hx | hx
        · left; rw [hx]; rfl
        · right; exact ⟨g, by omega, rfl⟩
      · intro h
        have : g = S := Option.some.inj h
        exact hgne this
      · exact ((grown_kp hgrow).mono (fun k _ h => .inr h)).setCell S 0 _ (.inl (.inl rfl))
    have hfinH := Lib.hid hfin
    clear hfin hown1 hgrow hat hb1 hcH hSH
    go_wp2
    go_ret2
    exact ⟨rfl, hfinH.out⟩
end Go.Proofs.YtokmkkkanphihaaGreatRDoor

/- The encoder's Write: the buffer goes behind what the sink has; the buffer is empty then. -/
namespace Go.Proofs.YtokmkkkanphihaaGreatRDoor
open Go.RowKit Go.Sort

/-- An encoder at e with its own row, a sink at S with its own: what is written, and what was sent. -/
structure SE (w0 : World) (N e S : Nat) (s : St) (sent : List UInt8) (w : World) : Prop where
  both : ∃ bb v, Enc w N e bb s ∧ w.heap[S]? = some (.cells #[v] 56 (0, 0)) ∧ w.ownsRow N 5 1 v sent.length (bvs sent) ∧ v.ownBlock ≠ some S ∧ v.ownBlock ≠ some e ∧ bb ≠ some S ∧ (∀ g, v.ownBlock = some g → bb ≠ some g)
  ne : S ≠ e
  low : N ≤ S
  tabs : Tabs N w
  kp : Kp (fun _ => False) w0 w
  base : w0.heap.size ≤ N

theorem SE.encF {w0 w : World} {N e S : Nat} {s : St} {sent : List UInt8} (h : SE w0 N e S s sent w) : ∃ bb, EncF w bb N e s w ∧ Base w bb N ∧
    (∀ w' s', EncF w bb N e s' w' → SE w0 N e S s' sent w') := by
  obtain ⟨bb, v, hE, hS, hown, h1, h2, h3, h4⟩ := h.both
  have hEo := hE
  obtain ⟨vE, hEh, ⟨hEown, hEb⟩, hEne, hNe⟩ := hEo
  have hlt := own_lt hEown
  rw [hEb] at hlt
  have hB : Base w bb N := ⟨h.tabs, fun g hg => (hlt g hg).1⟩
  refine ⟨bb, EncF.refl hE, hB, ?_⟩
  intro w' s' hF'
  have hT' := hF'.tabs hB
  obtain ⟨bb', hE', hF⟩ := hF'
  have hSs : S < w.heap.size := by
    rcases Nat.lt_or_ge S w.heap.size with h | h
    · exact h
    · rw [Array.getElem?_eq_none h] at hS; cases hS
  have hvlt := own_lt hown
  refine ⟨⟨bb', v, hE', (hF.block S hSs h.ne (Ne.symm h3)).trans hS, ⟨hown.1, ?_⟩, h1, h2, ?_, ?_⟩, h.ne, h.low, hT', ?_, h.base⟩
  · rcases hown.2 with a | ⟨g, cap, cur, b1, b2, b3, b4⟩
    · exact .inl a
    · refine .inr ⟨g, cap, cur, b1, b2, ?_, b4⟩
      have hg : v.ownBlock = some g := by rw [b1]; rfl
      rw [hF.block g (hvlt g hg).2 (fun hx => h2 (by rw [hg, hx])) (Ne.symm (h4 g hg))]
      exact b3
  · rcases hF.own with hb | ⟨g, hg, hb⟩
    · rw [hb]; exact h3
    · rw [hb]; intro hx; cases hx; omega
  · intro g hg
    rcases hF.own with hb | ⟨g', hg', hb⟩
    · rw [hb]; exact h4 g hg
    · rw [hb]
      intro hx
      cases hx
      have := (hvlt g hg).2
      omega
  · refine ⟨hF.os.trans h.kp.os, hF.tape.trans h.kp.tape, hF.output.trans h.kp.output, Nat.le_trans h.kp.size hF.size, fun k hk hx => ?_⟩
    have hbase := h.base
    rw [hF.block k (Nat.lt_of_lt_of_le hk h.kp.size) (by omega) ?_]
    · exact h.kp.block k hk hx
    · intro hy
      have := hB.own k hy.symm
      omega

theorem heap_lt {w : World} {k : Nat} {o : Obj} (h : w.heap[k]? = some o) : k < w.heap.size := by
  rcases Nat.lt_or_ge k w.heap.size with h' | h'
  · exact h'
  · rw [Array.getElem?_eq_none h'] at h; cases h

/-- Behind a write: the sink has more, the buffer is empty. -/
theorem SE.sent {w0 w w1 : World} {N e S : Nat} {s : St} {sent : List UInt8} {bb : Option Nat} {v v' : Value} {g cap len : Nat} (h : SE w0 N e S s sent w) (hE : Enc w N e bb s) (hv : w.cell? ⟨e, 0, none⟩ = some (.slice (some ⟨g, 0, none⟩) len cap))
    (_hcap : cap ≤ maxLen) (hbS : bb ≠ some S) (hvb : ∀ g, v.ownBlock = some g → bb ≠ some g)
    (hve : v.ownBlock ≠ some e) (hvl : ∀ g, v.ownBlock = some g → N ≤ g ∧ g < w.heap.size)
    (h1 : w1.heap[S]? = some (.cells #[v'] 56 (0, 0))) (h2 : w1.ownsRow N 5 1 v' (sent ++ s.out).length (bvs (sent ++ s.out))) (h3 : v'.ownBlock = v.ownBlock ∨ ∃ g, w.heap.size ≤ g ∧ v'.ownBlock = some g) (h4 : v'.ownBlock ≠ some S)
    (hk : Kp (fun k => k = S ∨ v.ownBlock = some k) w w1) :
    SE w0 N e S { s with out := [] } (sent ++ s.out) (w1.setCell ⟨e, 0, none⟩ (.slice (some ⟨g, 0, none⟩) 0 cap)) := by
  obtain ⟨vE, hEh, ⟨hEown, hEb⟩, hEne, hNe⟩ := hE
  have hes := heap_lt hEh
  have hvE : vE = .slice (some ⟨g, 0, none⟩) len cap := by
    have : w.cell? ⟨e, 0, none⟩ = some vE := by simp [World.cell?, hEh, encCells]
    rw [hv] at this
    exact (Option.some.inj this).symm
  have hbg : bb = some g := by rw [← hEb, hvE]; rfl
  have hEl := own_lt hEown
  have hgl := hEl g (by rw [hvE]; rfl)
  have he1 : w1.heap[e]? = some (.cells (encCells vE s) 70 (0, 0)) := (hk.block e hes (fun hx => by rcases hx with hx | hx; exact h.ne hx.symm; exact hve hx)).trans hEh
  have hne : ∀ k, k ≠ e → (w1.setCell ⟨e, 0, none⟩ (.slice (some ⟨g, 0, none⟩) 0 cap)).heap[k]? = w1.heap[k]? := fun k hk => Below.heap_setCell w1 ⟨e, 0, none⟩ _ k hk
  have hgne : g ≠ e := fun hx => hEne (by rw [hbg, hx])
  have hv'e : v'.ownBlock ≠ some e := by
    rcases h3 with h | ⟨g', hg', h⟩
    · rw [h]; exact hve
    · rw [h]; intro hx; cases hx; omega
  have hg1 : w1.heap[g]? = w.heap[g]? := hk.block g hgl.2 (fun hx => by rcases hx with hx | hx; exact hbS (by rw [hbg, hx]); exact hvb g hx hbg)
  refine ⟨⟨bb, v', ⟨.slice (some ⟨g, 0, none⟩) 0 cap, ?_, ⟨?_, ?_⟩, hEne, hNe⟩, (hne S h.ne).trans h1, ⟨h2.1, ?_⟩, h4, hv'e, hbS, ?_⟩, h.ne, h.low, ?_, ?_, h.base⟩
  · simp [World.setCell, Array.getElem?_modify, he1, encCells]
  · refine ⟨rfl, .inr ?_⟩
    rcases hEown.2 with ⟨a, _⟩ | ⟨g', cap', cur, b1, b2, b3, b4, b5, b6, b7⟩
    · rw [hvE] at a; cases a
    · rw [hvE] at b1
      injection b1 with b1 b11 b12
      injection b1 with b1
      injection b1 with b1
      subst b1 b12
      refine ⟨g, cap, cur, rfl, b2, ?_, Nat.zero_le _, b5, b6, by simp [bvs]⟩
      rw [hne g hgne, hg1]
      exact b3
  · rw [hbg]; rfl
  · rcases h2.2 with a | ⟨g', cap', cur', b1, b2, b3, b4⟩
    · exact .inl a
    · refine .inr ⟨g', cap', cur', b1, b2, ?_, b4⟩
      rw [hne g' (fun hx => hv'e (by rw [b1, hx]; rfl))]
      exact b3
  · intro g' hg'
    rcases h3 with h | ⟨g2, hg2, h⟩
    · exact hvb g' (by rw [← h]; exact hg')
    · intro hx
      rw [h] at hg'
      injection hg' with hg'
      rw [hbg] at hx
      injection hx with hx
      omega
  · refine h.tabs.step (fun k hk2 => ?_) ?_
    · rw [hne k (by omega)]
      refine hk.block k (Nat.lt_of_lt_of_le hk2 h.tabs.size) (fun hx => ?_)
      rcases hx with hx | hx
      · have := h.low; omega
      · have := (hvl k hx).1; omega
    · have := hk.size; simp [World.setCell]; omega
  · have hbase := h.base
    have hlow := h.low
    refine ⟨hk.os.trans h.kp.os, hk.tape.trans h.kp.tape, hk.output.trans h.kp.output, by have := hk.size; have := h.kp.size; simp [World.setCell]; omega, fun k hk2 hx => ?_⟩
    rw [hne k (by omega), hk.block k (Nat.lt_of_lt_of_le hk2 h.kp.size) (fun hy => ?_)]
    · exact h.kp.block k hk2 hx
    · rcases hy with hy | hy
      · omega
      · have := (hvl k hy).1; omega

theorem SE.drewN {w0 w : World} {N e S : Nat} {s : St} {sent : List UInt8} (h : SE w0 N e S s sent w) (n : Nat) : SE w0 N e S s sent (w.drewN n) := by
  obtain ⟨⟨bb, v, hE, h1, h2, h3⟩, a, b, c, d, f⟩ := h
  exact ⟨⟨bb, v, hE.step (fun _ _ => rfl) (Nat.le_refl _), h1, ⟨h2.1, h2.2⟩, h3⟩, a, b, c.step (fun _ _ => rfl) (Nat.le_refl _), d.drewN n, f⟩

set_option maxHeartbeats 3200000 in
set_option maxRecDepth 100000 in
theorem Write_any {w0 w : World} {N e S : Nat} {s : St} {sent : List UInt8} (h : SE w0 N e S s sent w) (hwr : s.wr = .iface 54 (.pointer (some ⟨S, 0, none⟩))) (hpos : 0 < s.out.length) (hlen : sent.length + s.out.length ≤ lim) :
    Calls Tryz.prog 68 #[.pointer (some ⟨e, 0, none⟩)] w fun ev w' => ev = .returned (.tuple #[.int .i64 (s.out.length : Int), .nilIface]) ∧ SE w0 N e S { s with out := [] } (sent ++ s.out) w' := by
  have hH := Lib.hid h
  obtain ⟨bb, v, hE, hS, hown, h1, h2, h3, h4⟩ := h.both
  have hEo := Lib.hid hE
  obtain ⟨vE, hEh, ⟨hEown, hEb⟩, hEne, hNe⟩ := hE
  have hes := heap_lt hEh
  obtain ⟨g, cap, hvE, hcap⟩ : ∃ g cap, vE = .slice (some ⟨g, 0, none⟩) s.out.length cap ∧ cap ≤ maxLen := by
    rcases hEown.2 with ⟨_, hx⟩ | ⟨g, cap, cur, b1, _, _, _, b5, _⟩
    · exfalso
      have hx' : s.out.length = 0 := by simpa using hx
      omega
    · exact ⟨g, cap, b1, b5⟩
  subst hvE
  have c0 : w.cell? ⟨e, 0, none⟩ = some (.slice (some ⟨g, 0, none⟩) s.out.length cap) := by simp [World.cell?, hEh, encCells]
  have c2 : w.cell? ⟨e, 2, none⟩ = some (.iface 54 (.pointer (some ⟨S, 0, none⟩))) := by simp [World.cell?, hEh, encCells, hwr]
  have hNs : N ≤ w.heap.size := h.tabs.size
  have hcall : ∀ W, W.heap = w.heap → W.os = w.os → W.tape = w.tape → W.output = w.output → Calls Tryz.prog 199 #[.pointer (some ⟨S, 0, none⟩), .slice (some ⟨g, 0, none⟩) s.out.length cap] W fun ev w1 => ev = .returned (.tuple #[.int .i64 (s.out.length : Int), .nilIface]) ∧
      (w1.cell? ⟨e, 0, none⟩ = some (.slice (some ⟨g, 0, none⟩) s.out.length cap) ∧ w1.cell? ⟨e, 2, none⟩ = some (.iface 54 (.pointer (some ⟨S, 0, none⟩))) ∧ w1.frozen? ⟨e, 0, none⟩ = false ∧ SE w0 N e S { s with out := [] } (sent ++ s.out) (w1.setCell ⟨e, 0, none⟩ (.slice (some ⟨g, 0, none⟩) 0 cap))) := by
    intro W hW ho ht hu
    have hownW : ∀ {n : Nat} {v : Value} {xs : List Value}, w.ownsRow N 5 1 v n xs → W.ownsRow N 5 1 v n xs := fun h => ⟨h.1, by rw [hW]; exact h.2⟩
    refine (sinkWrite (by rw [hW]; exact hS) (hownW hown) (hownW hEown) hpos h1 (by rw [hW]; exact hNs) hlen).mono ?_
    rintro ev w1 ⟨he, v', q1, q2, q3, q4, q5⟩
    have q5' : Kp (fun k => k = S ∨ v.ownBlock = some k) w w1 := ⟨q5.os.trans ho, q5.tape.trans ht, q5.output.trans hu, by rw [← hW]; exact q5.size, fun k hk hx => by rw [← hW] at hk ⊢; exact q5.block k hk hx⟩
    have he1 : w1.heap[e]? = w.heap[e]? := q5'.block e hes (fun hx => by rcases hx with hx | hx; exact h.ne hx.symm; exact h2 hx)
    refine ⟨he, (World.cell?_of_block he1).trans c0, (World.cell?_of_block he1).trans c2, ?_, SE.sent h hEo.out c0 hcap h3 h4 h2 (own_lt hown) q1 q2 (by rwa [hW] at q3) q4 q5'⟩
    rw [World.frozen?_of_block he1]
    simp [World.frozen?, hEh]
  have hcallH := Lib.hid hcall
  have hcapI : (0 : Int) ≤ (cap : Int) := by omega
  have hcapm : cap ≤ 9223372036854775807 := by unfold maxLen at hcap; exact hcap
  have hol : s.out.length ≤ 1099511627776 := Nat.le_trans (by omega) hlen
  have hwrH := Lib.hid hwr
  clear hcall h hH hS hown h1 h2 h3 h4 hEh hEown hEb hEne hNe hlen hcap hwr hEo
  generalize s.out.length = L at *
  go_enter Tryz.func68, Tryz.ntmps68
  go_wp2_with fail
  go_region_held3 (fun w' => w'.cell? ⟨e, 0, none⟩ = some (.slice (some ⟨g, 0, none⟩) L cap) ∧ w'.cell? ⟨e, 2, none⟩ = some (.iface 54 (.pointer (some ⟨S, 0, none⟩)))) (first | exact ⟨p0, p2⟩ | go_keep) (first
    | (go_at_call 199; refine (hcallH.out _ (by rfl) (by rfl) (by rfl) (by rfl)).mono ?_; rintro ev w1 ⟨rfl, p0, p2, pf, hfin⟩; have hfinH := Lib.hid hfin; clear hfin)
    )
  all_goals
    go_wp2_with fail
    go_ret2
    exact ⟨rfl, hfinH.out⟩
end Go.Proofs.YtokmkkkanphihaaGreatRDoor

/- The encoder's Encode methods behind a sink, and impl.encoded (written by genEn.py). -/
namespace Go.Proofs.YtokmkkkanphihaaGreatRDoor
open Go.RowKit Go.Sort

/-- An encoder whose buffer is empty, its sink, what was sent. -/
def sinkV (S : Nat) : Value := .iface 54 (.pointer (some ⟨S, 0, none⟩))

set_option maxHeartbeats 1600000 in
set_option maxRecDepth 100000 in
theorem Encode_Bool {w0 w : World} {N e S : Nat} {sent T : List UInt8} {v : Bool} (h : SE w0 N e S (st0 (sinkV S)) sent w) (hT : 0 < T.length) (hlen : sent.length + T.length ≤ lim)
    (hC : ∀ bb, EncF w bb N e (st0 (sinkV S)) w → Base w bb N → Calls Tryz.prog 53 #[.pointer (some ⟨e, 0, none⟩), .bool v] w (EncV w bb N e ((st0 (sinkV S)).add T))) :
    Calls Tryz.prog 40 #[.pointer (some ⟨e, 0, none⟩), .bool v] w fun ev w' => ev = .returned .nilIface ∧ SE w0 N e S (st0 (sinkV S)) (sent ++ T) w' := by
  obtain ⟨bb, hE, hB, hlift⟩ := h.encF
  have hCH := Lib.hid (hC bb hE hB)
  have hlH := Lib.hid hlift
  have hTH := Lib.hid hT
  have hlenH := Lib.hid hlen
  obtain ⟨bbX, hEX, hFX⟩ := hE
  obtain ⟨_, _, _, c1, _, _, _, _, _, _⟩ := hEX.cells
  clear hlift hC h hB hEX hFX hT hlen
  go_enter Tryz.func40, Tryz.ntmps40
  go_wp2_with (first
    | (go_at_call 53; refine hCH.out.mono ?_; rintro ev w1 ⟨v1, rfl, hE1, _⟩; have hSE := Lib.hid (hlH.out _ _ hE1); clear hE1)
    | (go_at_call 68; refine (Write_any hSE.out rfl (by simpa [st0] using hTH.out) (by simpa [st0] using hlenH.out)).mono ?_; rintro ev w2 ⟨rfl, hS2⟩; have hS2H := Lib.hid hS2; clear hS2)
    )
  go_ret
  refine ⟨rfl, ?_⟩
  have h9 := hS2H.out
  simpa [St.add, st0] using h9

set_option maxHeartbeats 1600000 in
set_option maxRecDepth 100000 in
theorem Encode_Int64 {w0 w : World} {N e S : Nat} {sent T : List UInt8} {v : Int} (h : SE w0 N e S (st0 (sinkV S)) sent w) (hT : 0 < T.length) (hlen : sent.length + T.length ≤ lim)
    (hC : ∀ bb, EncF w bb N e (st0 (sinkV S)) w → Base w bb N → Calls Tryz.prog 55 #[.pointer (some ⟨e, 0, none⟩), .int .i64 v] w (EncV w bb N e ((st0 (sinkV S)).add T))) :
    Calls Tryz.prog 41 #[.pointer (some ⟨e, 0, none⟩), .int .i64 v] w fun ev w' => ev = .returned .nilIface ∧ SE w0 N e S (st0 (sinkV S)) (sent ++ T) w' := by
  obtain ⟨bb, hE, hB, hlift⟩ := h.encF
  have hCH := Lib.hid (hC bb hE hB)
  have hlH := Lib.hid hlift
  have hTH := Lib.hid hT
  have hlenH := Lib.hid hlen
  obtain ⟨bbX, hEX, hFX⟩ := hE
  obtain ⟨_, _, _, c1, _, _, _, _, _, _⟩ := hEX.cells
  clear hlift hC h hB hEX hFX hT hlen
  go_enter Tryz.func41, Tryz.ntmps41
  go_wp2_with (first
    | (go_at_call 55; refine hCH.out.mono ?_; rintro ev w1 ⟨v1, rfl, hE1, _⟩; have hSE := Lib.hid (hlH.out _ _ hE1); clear hE1)
    | (go_at_call 68; refine (Write_any hSE.out rfl (by simpa [st0] using hTH.out) (by simpa [st0] using hlenH.out)).mono ?_; rintro ev w2 ⟨rfl, hS2⟩; have hS2H := Lib.hid hS2; clear hS2)
    )
  go_ret
  refine ⟨rfl, ?_⟩
  have h9 := hS2H.out
  simpa [St.add, st0] using h9

set_option maxHeartbeats 1600000 in
set_option maxRecDepth 100000 in
theorem Encode_Float {w0 w : World} {N e S : Nat} {sent T : List UInt8} {v : Nat} (h : SE w0 N e S (st0 (sinkV S)) sent w) (hT : 0 < T.length) (hlen : sent.length + T.length ≤ lim)
    (hC : ∀ bb, EncF w bb N e (st0 (sinkV S)) w → Base w bb N → Calls Tryz.prog 56 #[.pointer (some ⟨e, 0, none⟩), .float .f64 v] w (EncV w bb N e ((st0 (sinkV S)).add T))) :
    Calls Tryz.prog 42 #[.pointer (some ⟨e, 0, none⟩), .float .f64 v] w fun ev w' => ev = .returned .nilIface ∧ SE w0 N e S (st0 (sinkV S)) (sent ++ T) w' := by
  obtain ⟨bb, hE, hB, hlift⟩ := h.encF
  have hCH := Lib.hid (hC bb hE hB)
  have hlH := Lib.hid hlift
  have hTH := Lib.hid hT
  have hlenH := Lib.hid hlen
  obtain ⟨bbX, hEX, hFX⟩ := hE
  obtain ⟨_, _, _, c1, _, _, _, _, _, _⟩ := hEX.cells
  clear hlift hC h hB hEX hFX hT hlen
  go_enter Tryz.func42, Tryz.ntmps42
  go_wp2_with (first
    | (go_at_call 56; refine hCH.out.mono ?_; rintro ev w1 ⟨v1, rfl, hE1, _⟩; have hSE := Lib.hid (hlH.out _ _ hE1); clear hE1)
    | (go_at_call 68; refine (Write_any hSE.out rfl (by simpa [st0] using hTH.out) (by simpa [st0] using hlenH.out)).mono ?_; rintro ev w2 ⟨rfl, hS2⟩; have hS2H := Lib.hid hS2; clear hS2)
    )
  go_ret
  refine ⟨rfl, ?_⟩
  have h9 := hS2H.out
  simpa [St.add, st0] using h9

set_option maxHeartbeats 1600000 in
set_option maxRecDepth 100000 in
theorem Encode_String {w0 w : World} {N e S : Nat} {sent T : List UInt8} {v : ByteArray} (h : SE w0 N e S (st0 (sinkV S)) sent w) (hT : 0 < T.length) (hlen : sent.length + T.length ≤ lim)
    (hC : ∀ bb, EncF w bb N e (st0 (sinkV S)) w → Base w bb N → Calls Tryz.prog 52 #[.pointer (some ⟨e, 0, none⟩), .string v] w (EncV w bb N e ((st0 (sinkV S)).add T))) :
    Calls Tryz.prog 43 #[.pointer (some ⟨e, 0, none⟩), .string v] w fun ev w' => ev = .returned .nilIface ∧ SE w0 N e S (st0 (sinkV S)) (sent ++ T) w' := by
  obtain ⟨bb, hE, hB, hlift⟩ := h.encF
  have hCH := Lib.hid (hC bb hE hB)
  have hlH := Lib.hid hlift
  have hTH := Lib.hid hT
  have hlenH := Lib.hid hlen
  obtain ⟨bbX, hEX, hFX⟩ := hE
  obtain ⟨_, _, _, c1, _, _, _, _, _, _⟩ := hEX.cells
  clear hlift hC h hB hEX hFX hT hlen
  go_enter Tryz.func43, Tryz.ntmps43
  go_wp2_with (first
    | (go_at_call 52; refine hCH.out.mono ?_; rintro ev w1 ⟨v1, rfl, hE1, _⟩; have hSE := Lib.hid (hlH.out _ _ hE1); clear hE1)
    | (go_at_call 68; refine (Write_any hSE.out rfl (by simpa [st0] using hTH.out) (by simpa [st0] using hlenH.out)).mono ?_; rintro ev w2 ⟨rfl, hS2⟩; have hS2H := Lib.hid hS2; clear hS2)
    )
  go_ret
  refine ⟨rfl, ?_⟩
  have h9 := hS2H.out
  simpa [St.add, st0] using h9

set_option maxHeartbeats 1600000 in
set_option maxRecDepth 100000 in
theorem Encode_Array {w0 w : World} {N e S : Nat} {sent T : List UInt8} {b o : Nat} (h : SE w0 N e S (st0 (sinkV S)) sent w) (hT : 0 < T.length) (hlen : sent.length + T.length ≤ lim)
    (hC : ∀ bb, EncF w bb N e (st0 (sinkV S)) w → Base w bb N → Calls Tryz.prog 51 #[.pointer (some ⟨e, 0, none⟩), .iface 44 (.agg #[.pointer (some ⟨b, o, none⟩), .int .i64 0])] w (EncV w bb N e ((st0 (sinkV S)).add T))) :
    Calls Tryz.prog 44 #[.pointer (some ⟨e, 0, none⟩), .iface 44 (.agg #[.pointer (some ⟨b, o, none⟩), .int .i64 0])] w fun ev w' => ev = .returned .nilIface ∧ SE w0 N e S (st0 (sinkV S)) (sent ++ T) w' := by
  obtain ⟨bb, hE, hB, hlift⟩ := h.encF
  have hCH := Lib.hid (hC bb hE hB)
  have hlH := Lib.hid hlift
  have hTH := Lib.hid hT
  have hlenH := Lib.hid hlen
  obtain ⟨bbX, hEX, hFX⟩ := hE
  obtain ⟨_, _, _, c1, _, _, _, _, _, _⟩ := hEX.cells
  clear hlift hC h hB hEX hFX hT hlen
  go_enter Tryz.func44, Tryz.ntmps44
  go_wp2_with (first
    | (go_at_call 51; refine hCH.out.mono ?_; rintro ev w1 ⟨v1, rfl, hE1, _⟩; have hSE := Lib.hid (hlH.out _ _ hE1); clear hE1)
    | (go_at_call 68; refine (Write_any hSE.out rfl (by simpa [st0] using hTH.out) (by simpa [st0] using hlenH.out)).mono ?_; rintro ev w2 ⟨rfl, hS2⟩; have hS2H := Lib.hid hS2; clear hS2)
    )
  go_ret
  refine ⟨rfl, ?_⟩
  have h9 := hS2H.out
  simpa [St.add, st0] using h9

set_option maxHeartbeats 1600000 in
set_option maxRecDepth 100000 in
theorem Encode_Object {w0 w : World} {N e S : Nat} {sent T : List UInt8} {b o : Nat} (h : SE w0 N e S (st0 (sinkV S)) sent w) (hT : 0 < T.length) (hlen : sent.length + T.length ≤ lim)
    (hC : ∀ bb, EncF w bb N e (st0 (sinkV S)) w → Base w bb N → Calls Tryz.prog 35 #[.pointer (some ⟨e, 0, none⟩), .iface 44 (.agg #[.pointer (some ⟨b, o, none⟩), .int .i64 0])] w (EncV w bb N e ((st0 (sinkV S)).add T))) :
    Calls Tryz.prog 45 #[.pointer (some ⟨e, 0, none⟩), .iface 44 (.agg #[.pointer (some ⟨b, o, none⟩), .int .i64 0])] w fun ev w' => ev = .returned .nilIface ∧ SE w0 N e S (st0 (sinkV S)) (sent ++ T) w' := by
  obtain ⟨bb, hE, hB, hlift⟩ := h.encF
  have hCH := Lib.hid (hC bb hE hB)
  have hlH := Lib.hid hlift
  have hTH := Lib.hid hT
  have hlenH := Lib.hid hlen
  obtain ⟨bbX, hEX, hFX⟩ := hE
  obtain ⟨_, _, _, c1, _, _, _, _, _, _⟩ := hEX.cells
  clear hlift hC h hB hEX hFX hT hlen
  go_enter Tryz.func45, Tryz.ntmps45
  go_wp2_with (first
    | (go_at_call 35; refine hCH.out.mono ?_; rintro ev w1 ⟨v1, rfl, hE1, _⟩; have hSE := Lib.hid (hlH.out _ _ hE1); clear hE1)
    | (go_at_call 68; refine (Write_any hSE.out rfl (by simpa [st0] using hTH.out) (by simpa [st0] using hlenH.out)).mono ?_; rintro ev w2 ⟨rfl, hS2⟩; have hS2H := Lib.hid hS2; clear hS2)
    )
  go_ret
  refine ⟨rfl, ?_⟩
  have h9 := hS2H.out
  simpa [St.add, st0] using h9

set_option maxHeartbeats 800000 in
set_option maxRecDepth 100000 in
theorem encoded_2 {w : World} {b o e : Nat} {i : Int} {R : World → Prop} (h0 : w.cell? ⟨b, o, none⟩ = some (.int .i64 2)) (h1 : w.cell? ⟨b, o + 1, none⟩ = some (.int .i64 i)) 
    (hC0 : Calls Tryz.prog 40 #[.pointer (some ⟨e, 0, none⟩), .bool (i == 1)] w fun ev w' => ev = .returned .nilIface ∧ R w') :
    Calls Tryz.prog 26 #[.pointer (some ⟨e, 0, none⟩), .pointer (some ⟨b, o, none⟩)] w fun ev w' => ev = .returned .nilIface ∧ R w' := by
  have hC := Lib.hid hC0
  clear hC0
  go_enter Tryz.func26, Tryz.ntmps26
  go_wp2_with (go_at_call 40; refine hC.out.mono ?_; rintro ev w2 ⟨rfl, hR⟩; have hRH := Lib.hid hR; clear hR)
  go_ret
  exact ⟨rfl, hRH.out⟩

set_option maxHeartbeats 800000 in
set_option maxRecDepth 100000 in
theorem encoded_3 {w : World} {b o e : Nat} {i : Int} {R : World → Prop} (h0 : w.cell? ⟨b, o, none⟩ = some (.int .i64 3)) (h1 : w.cell? ⟨b, o + 1, none⟩ = some (.int .i64 i)) 
    (hC0 : Calls Tryz.prog 41 #[.pointer (some ⟨e, 0, none⟩), .int .i64 i] w fun ev w' => ev = .returned .nilIface ∧ R w') :
    Calls Tryz.prog 26 #[.pointer (some ⟨e, 0, none⟩), .pointer (some ⟨b, o, none⟩)] w fun ev w' => ev = .returned .nilIface ∧ R w' := by
  have hC := Lib.hid hC0
  clear hC0
  go_enter Tryz.func26, Tryz.ntmps26
  go_wp2_with (go_at_call 41; refine hC.out.mono ?_; rintro ev w2 ⟨rfl, hR⟩; have hRH := Lib.hid hR; clear hR)
  go_ret
  exact ⟨rfl, hRH.out⟩

set_option maxHeartbeats 800000 in
set_option maxRecDepth 100000 in
theorem encoded_4 {w : World} {b o e : Nat} {r : Nat} {R : World → Prop} (h0 : w.cell? ⟨b, o, none⟩ = some (.int .i64 4)) (h1 : w.cell? ⟨b, o + 2, none⟩ = some (.float .f64 r)) 
    (hC0 : Calls Tryz.prog 42 #[.pointer (some ⟨e, 0, none⟩), .float .f64 r] w fun ev w' => ev = .returned .nilIface ∧ R w') :
    Calls Tryz.prog 26 #[.pointer (some ⟨e, 0, none⟩), .pointer (some ⟨b, o, none⟩)] w fun ev w' => ev = .returned .nilIface ∧ R w' := by
  have hC := Lib.hid hC0
  clear hC0
  go_enter Tryz.func26, Tryz.ntmps26
  go_wp2_with (go_at_call 42; refine hC.out.mono ?_; rintro ev w2 ⟨rfl, hR⟩; have hRH := Lib.hid hR; clear hR)
  go_ret
  exact ⟨rfl, hRH.out⟩

set_option maxHeartbeats 800000 in
set_option maxRecDepth 100000 in
theorem encoded_5 {w : World} {b o e : Nat} {t : ByteArray} {R : World → Prop} (h0 : w.cell? ⟨b, o, none⟩ = some (.int .i64 5)) (h1 : w.cell? ⟨b, o + 3, none⟩ = some (.string t)) 
    (hC0 : Calls Tryz.prog 43 #[.pointer (some ⟨e, 0, none⟩), .string t] w fun ev w' => ev = .returned .nilIface ∧ R w') :
    Calls Tryz.prog 26 #[.pointer (some ⟨e, 0, none⟩), .pointer (some ⟨b, o, none⟩)] w fun ev w' => ev = .returned .nilIface ∧ R w' := by
  have hC := Lib.hid hC0
  clear hC0
  go_enter Tryz.func26, Tryz.ntmps26
  go_wp2_with (go_at_call 43; refine hC.out.mono ?_; rintro ev w2 ⟨rfl, hR⟩; have hRH := Lib.hid hR; clear hR)
  go_ret
  exact ⟨rfl, hRH.out⟩

set_option maxHeartbeats 800000 in
set_option maxRecDepth 100000 in
theorem encoded_6 {w : World} {b o e : Nat} {R : World → Prop} (h0 : w.cell? ⟨b, o, none⟩ = some (.int .i64 6)) 
    (hC0 : Calls Tryz.prog 44 #[.pointer (some ⟨e, 0, none⟩), .iface 44 (.agg #[.pointer (some ⟨b, o, none⟩), .int .i64 0])] w fun ev w' => ev = .returned .nilIface ∧ R w') :
    Calls Tryz.prog 26 #[.pointer (some ⟨e, 0, none⟩), .pointer (some ⟨b, o, none⟩)] w fun ev w' => ev = .returned .nilIface ∧ R w' := by
  have hC := Lib.hid hC0
  clear hC0
  go_enter Tryz.func26, Tryz.ntmps26
  go_wp2_with (go_at_call 44; refine hC.out.mono ?_; rintro ev w2 ⟨rfl, hR⟩; have hRH := Lib.hid hR; clear hR)
  go_ret
  exact ⟨rfl, hRH.out⟩

set_option maxHeartbeats 800000 in
set_option maxRecDepth 100000 in
theorem encoded_7 {w : World} {b o e : Nat} {R : World → Prop} (h0 : w.cell? ⟨b, o, none⟩ = some (.int .i64 7)) 
    (hC0 : Calls Tryz.prog 45 #[.pointer (some ⟨e, 0, none⟩), .iface 44 (.agg #[.pointer (some ⟨b, o, none⟩), .int .i64 0])] w fun ev w' => ev = .returned .nilIface ∧ R w') :
    Calls Tryz.prog 26 #[.pointer (some ⟨e, 0, none⟩), .pointer (some ⟨b, o, none⟩)] w fun ev w' => ev = .returned .nilIface ∧ R w' := by
  have hC := Lib.hid hC0
  clear hC0
  go_enter Tryz.func26, Tryz.ntmps26
  go_wp2_with (go_at_call 45; refine hC.out.mono ?_; rintro ev w2 ⟨rfl, hR⟩; have hRH := Lib.hid hR; clear hR)
  go_ret
  exact ⟨rfl, hRH.out⟩

end Go.Proofs.YtokmkkkanphihaaGreatRDoor

/- impl.encoded and impl.WrittenAll: what one encoder writes of values. -/
namespace Go.Proofs.YtokmkkkanphihaaGreatRDoor
open Go.RowKit Go.Sort

theorem valT_pos {v : Val} (h : Good v) : 0 < (valT v).length := by
  obtain ⟨x, d, hx, _⟩ := okEnd_val v h
  rw [hx]; simp

theorem encoded_any {w0 w : World} {N e S b o : Nat} {sent : List UInt8} {v : Val} (h : SE w0 N e S (st0 (sinkV S)) sent w) (hP : PVal N w v b o) (hG : Good v) (hk : ∃ k i r t l ks, v = .mk k i r t l ks ∧ 2 ≤ k) (hroom : sent.length + cost v ≤ lim) :
    Calls Tryz.prog 26 #[.pointer (some ⟨e, 0, none⟩), .pointer (some ⟨b, o, none⟩)] w fun ev w' => ev = .returned .nilIface ∧ SE w0 N e S (st0 (sinkV S)) (sent ++ valT (redV 0 v)) w' := by
  obtain ⟨k, i, r, t, l, ks, rfl, hk2⟩ := hk
  have hlenv := valT_len 0 _ hG
  have hTp := valT_pos (Good_red 0 _ hG)
  simp only [Good] at hG
  obtain ⟨⟨hk1, hk7⟩, ⟨hi0, hi1⟩, hr, hkl, hl6, hk7', hGL⟩ := hG
  have hP' := hP
  simp only [PVal] at hP'
  obtain ⟨hbN, c0, c1, c2, c3, ⟨ao, cc, c4, hl⟩, _⟩ := hP'
  have hout : ((st0 (sinkV S)).out.length : Nat) = 0 := rfl
  have hcost : cost (.mk k i r t l ks) = 2000 + 6 * t.size + costL l + costK ks := by simp only [cost]
  have hroom' : sent.length + (valT (redV 0 (.mk k i r t l ks))).length ≤ lim := by omega
  have hcl : (2000 + 6 * t.size + costL l + costK ks) ≤ lim := by omega
  have z0 : ∀ q, q ≤ lim → (st0 (sinkV S)).out.length + q ≤ lim := fun q h => by rw [hout, Nat.zero_add]; exact h
  have hq6 : costL l + 300 ≤ lim := by omega
  have hq7 : costL l + costK ks + 700 ≤ lim := by omega
  have hq6' : costL l ≤ lim := by omega
  have hcases : k = 2 ∨ k = 3 ∨ k = 4 ∨ k = 5 ∨ k = 6 ∨ k = 7 := by omega
  simp only [redV] at *
  rcases hcases with rfl | rfl | rfl | rfl | rfl | rfl
  · have ev : valT (.mk 2 i r t (redL 0 l) (if (2 : Int) = 7 then redK 0 l ks else ks)) = boolTxt (i == 1) := by rw [valT]; rfl
    rw [ev] at hTp hroom' ⊢
    refine encoded_2 c0 c1 (Encode_Bool h hTp hroom' fun bb hE hB => ?_)
    rcases hb : (i == 1) with _ | _
    · exact encodeBoolF hB hE (by have h0 := hout; omega)
    · exact encodeBoolT hB hE (by have h0 := hout; omega)
  · have ev : valT (.mk 3 i r t (redL 0 l) (if (3 : Int) = 7 then redK 0 l ks else ks)) = Lib.itoa i := by rw [valT]; rfl
    rw [ev] at hTp hroom' ⊢
    exact encoded_3 c0 c1 (Encode_Int64 h hTp hroom' fun bb hE hB => encodeInt64_any hB hE (by have h0 := hout; omega) hi0 hi1)
  · have ev : valT (.mk 4 i r t (redL 0 l) (if (4 : Int) = 7 then redK 0 l ks else ks)) = realT r := by rw [valT]; rfl
    rw [ev] at hTp hroom' ⊢
    exact encoded_4 c0 c2 (Encode_Float h hTp hroom' fun bb hE hB => encodeFloat_any hB hE (by have h0 := hout; omega) (realT_spec (hr rfl)))
  · have ev : valT (.mk 5 i r t (redL 0 l) (if (5 : Int) = 7 then redK 0 l ks else ks)) = [34] ++ esc t.data.toList ++ [34] := by rw [valT]; rfl
    rw [ev] at hTp hroom' ⊢
    exact encoded_5 c0 c3 (Encode_String h hTp hroom' fun bb hE hB => encodeString_any hB hE (by have h0 := hout; omega))
  · have ev : valT (.mk 6 i r t (redL 0 l) (if (6 : Int) = 7 then redK 0 l ks else ks)) = [91] ++ listT (redL 0 l) true ++ [93] := by rw [valT]; rfl
    rw [ev] at hTp hroom' ⊢
    refine encoded_6 c0 (Encode_Array h hTp hroom' fun bb hE hB => ?_)
    have hW := marA_ok (e := e) hB hP hGL hq6'
    exact encodeArray_any (K := costL l) hB hE (z0 _ hq6) rfl rfl hW
  · have ev : valT (.mk 7 i r t (redL 0 l) (if (7 : Int) = 7 then redK 0 l ks else ks)) = [123] ++ membT (redL 0 l) (redK 0 l ks) true ++ [125] := by rw [valT]; rfl
    rw [ev] at hTp hroom' ⊢
    refine encoded_7 c0 (Encode_Object h hTp hroom' fun bb hE hB => ?_)
    rcases List.eq_nil_or_concat l with hl0 | ⟨a, z, hlz⟩
    · subst hl0
      have hT : [123] ++ membT (redL 0 []) (redK 0 [] ks) true ++ [125] = ([123] ++ [125] : List UInt8) := by simp [redL, membT]
      rw [hT]
      exact encodeObject_nil hB hE (by have h0 := hout; omega) rfl rfl hbN c4
    · have hn : (l.length == 0) = false := by rw [hlz]; simp
      have hW := marO_ok (e := e) hB hP hGL hq6' (hkl rfl)
      exact encodeObject_ne (K := costL l + costK ks) hB hE (z0 _ hq7) rfl rfl hbN hn c4 hW

/-- The texts of values, one behind the other. -/
noncomputable def catT : List Val → List UInt8
  | [] => []
  | v :: vs => valT (redV 0 v) ++ catT vs

theorem catT_snoc : ∀ (a : List Val) (v : Val), catT (a ++ [v]) = catT a ++ valT (redV 0 v)
  | [], v => by simp [catT]
  | x :: a, v => by rw [List.cons_append, catT, catT, catT_snoc a v, List.append_assoc]

theorem catT_len : ∀ l : List Val, GoodL l → (catT l).length ≤ costL l
  | [], _ => by simp [catT]
  | v :: vs, h => by
    simp only [GoodL] at h
    have h1 := valT_len 0 v h.1
    have h2 := catT_len vs h.2
    simp only [catT, costL, List.length_append]; omega

/-- A kind of at least 2. -/
def Kind2 (v : Val) : Prop := ∃ k i r t l ks, v = .mk k i r t l ks ∧ 2 ≤ k

/-- The world in which the sink and the encoder are new. -/
def seW (w : World) : World := (w.alloc (.cells #[.slice none 0 0] 56)).alloc (.cells #[.slice none 0 0, .int .u8 0, .iface 54 (.pointer (some ⟨w.heap.size, 0, none⟩)), .nilIface, .bool false, .slice none 0 0] 70)

theorem seW_size (w : World) : (seW w).heap.size = w.heap.size + 2 := by unfold seW; simp
theorem seW_low (w : World) : ∀ k, k < w.heap.size → (seW w).heap[k]? = w.heap[k]? := fun k hk => by
  unfold seW
  rw [heap_alloc_old _ _ _ (by simp; omega), heap_alloc_old _ _ _ hk]

theorem seW_se {w : World} (hT : Tabs w.heap.size w) : SE w w.heap.size (w.heap.size + 1) w.heap.size (st0 (sinkV w.heap.size)) [] (seW w) := by
  have hs : (w.alloc (.cells #[.slice none 0 0] 56)).heap.size = w.heap.size + 1 := by simp
  refine ⟨⟨none, .slice none 0 0, ⟨.slice none 0 0, ?_, ⟨⟨rfl, .inl ⟨rfl, rfl⟩⟩, rfl⟩, by simp, by omega⟩, ?_, ⟨rfl, .inl ⟨rfl, rfl⟩⟩, by simp [Value.ownBlock], by simp [Value.ownBlock], by simp, fun g hg => by simp [Value.ownBlock] at hg⟩, by omega, Nat.le_refl _, hT.step (seW_low w) (by rw [seW_size]; omega), ⟨rfl, rfl, rfl, by rw [seW_size]; omega, fun k hk _ => seW_low w k hk⟩, Nat.le_refl _⟩
  · unfold seW
    rw [← hs]
    exact heap_alloc_new _ _
  · unfold seW
    rw [heap_alloc_old _ _ _ (by simp)]
    exact heap_alloc_new w _

set_option maxHeartbeats 3200000 in
set_option maxRecDepth 100000 in
theorem WrittenAll_any {w : World} {ao : Option Addr} {c : Nat} {vs : List Val} (hT : Tabs w.heap.size w) (hl : vs = [] ∨ ∃ b2 o2, ao = some ⟨b2, o2, none⟩ ∧ PList w.heap.size w vs b2 o2) (hG : GoodL vs) (hk : ∀ j (h : j < vs.length), Kind2 vs[j]) (hroom : costL vs ≤ lim) :
    Calls Tryz.prog 13 #[.slice ao vs.length c] w fun ev w' => ev = .returned (.tuple #[.string ⟨(catT vs).toArray⟩, .bool true]) ∧ Kp (fun _ => False) w w' := by
  have hn : vs.length ≤ 1099511627776 := by have h1 := vszL_len vs; have h2 := vszL_cost vs; unfold lim at hroom; omega
  have hseH := Lib.hid (seW_se hT)
  have hlH := Lib.hid hl
  have hGH := Lib.hid hG
  have hkH := Lib.hid hk
  have hrH := Lib.hid hroom
  clear hT hl hG hk hroom
  go_enter Tryz.func13, Tryz.ntmps13
  go_wp2_with (go_at_call 25; refine (NewEncoder_iface _ _ _).mono ?_; rintro ev w1 ⟨rfl, rfl⟩)
  go_loopw [15] (fun cc wr => ∃ j : Nat, j ≤ vs.length ∧ cc = .int .i64 j ∧ Hid (SE w w.heap.size (w.heap.size + 1) w.heap.size (st0 (sinkV w.heap.size)) (catT (vs.take j)) wr)) (fun cc _ => vs.length - (intOf cc).toNat)
  case atStart => exact ⟨0, Nat.zero_le _, rfl, Lib.hid hseH.out⟩
  case round =>
    obtain ⟨j, hj, rfl, hSE⟩ := hrel
    by_cases hlt : j < vs.length
    · obtain ⟨b2, o2, rfl, hPL⟩ : ∃ b2 o2, ao = some ⟨b2, o2, none⟩ ∧ PList w.heap.size w vs b2 o2 := by
        rcases hlH.out with h | h
        · subst h; simp at hlt
        · exact h
      have hcall : Calls Tryz.prog 26 #[.pointer (some ⟨w.heap.size + 1, 0, none⟩), .pointer (some ⟨b2, o2 + 6 * j, none⟩)] wr fun ev w' => ev = .returned .nilIface ∧ SE w w.heap.size (w.heap.size + 1) w.heap.size (st0 (sinkV w.heap.size)) (catT (vs.take (j + 1))) w' := by
        have hPj := (hPL.at j hlt).step (w' := wr) (fun k hk => hSE.out.kp.block k hk (fun h => h))
        have h1 := catT_len (vs.take j) (hGH.out.take j)
        have h2 : costL (vs.take j) + costL (vs.drop j) = costL vs := by rw [← costL_append, List.take_append_drop]
        have h3 : vs.drop j = vs[j] :: vs.drop (j + 1) := List.drop_eq_getElem_cons hlt
        rw [h3, costL] at h2
        have h4 := hrH.out
        have := encoded_any hSE.out hPj (hGH.out.at j hlt) (hkH.out j hlt) (by omega)
        rw [← catT_snoc] at this
        rw [show vs.take (j + 1) = vs.take j ++ [vs[j]] from List.take_succ_eq_append_getElem hlt]
        exact this
      have hcallH := Lib.hid hcall
      have e6H := Lib.hid (show o2 + j * 6 = o2 + 6 * j by omega)
      clear hcall hPL hSE
      go_wp2_with (go_at_call 26; rw [e6H.out]; refine hcallH.out.mono ?_; rintro ev w2 ⟨rfl, hR⟩; have hRH := Lib.hid hR; clear hR)
      go_roundw
      case rel => exact ⟨j + 1, by omega, by go_num, hRH⟩
      case measure => simp [intOf]; omega
    · have hje : j = vs.length := by omega
      have hall : SE w w.heap.size (w.heap.size + 1) w.heap.size (st0 (sinkV w.heap.size)) (catT vs) wr := by
        have := hSE.out
        rwa [hje, List.take_length] at this
      obtain ⟨bb, v, _, hS, hown, _⟩ := hall.both
      have c0 : wr.cell? ⟨w.heap.size, 0, none⟩ = some v := by simp [World.cell?, hS]
      have hconv := row_string (W := wr) hown rfl
      have hkp := Lib.hid hall.kp
      clear hall hS hown hje hSE
      go_wp2_with fail
      go_ret2
      exact ⟨rfl, hkp.out⟩
end Go.Proofs.YtokmkkkanphihaaGreatRDoor
