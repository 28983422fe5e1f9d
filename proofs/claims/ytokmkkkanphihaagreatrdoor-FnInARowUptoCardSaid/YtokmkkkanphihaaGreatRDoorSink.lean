/- impl.sink, the encoder's Write: what is written goes behind what was. -/
import Derived.Test.YtokmkkkanphihaaGreatRDoorMar2
import Derived.Deep.RegionHeld3
namespace Go.Proofs.YtokmkkkanphihaaGreatRDoor
open Go.RowKit Go.Sort

def sinkObj (v : Value) : Obj := .cells #[v] 56

theorem grown_kp {w w1 : World} {bb : Option Nat} (h : w.grownBy w1 bb) : Kp (fun k => bb = some k) w w1 :=
  ⟨h.os, h.tape, h.output, h.size, fun k hk hx => h.block k hk (fun hy => hx hy.symm)⟩

set_option maxHeartbeats 1600000 in
set_option maxRecDepth 100000 in
theorem sinkWrite {w : World} {N S : Nat} {v u : Value} {out T : List UInt8} (hS : w.heap[S]? = some (.cells #[v] 56 (0, 0))) (hown : w.ownsRow N 5 1 v out.length (bvs out)) (hsrc : w.ownsRow N 5 1 u T.length (bvs T))
    (hT : 0 < T.length) (hvS : v.ownBlock ≠ some S) (hN : N ≤ w.heap.size) (hlen : out.length + T.length ≤ lim) :
    Calls Tryz.prog 199 #[.pointer (some ⟨S, 0, none⟩), u] w fun ev w' => ev = .returned (.tuple #[.int .i64 (T.length : Int), .nilIface]) ∧
      ∃ v', w'.heap[S]? = some (.cells #[v'] 56 (0, 0)) ∧ w'.ownsRow N 5 1 v' (out ++ T).length (bvs (out ++ T)) ∧ (v'.ownBlock = v.ownBlock ∨ ∃ g, w.heap.size ≤ g ∧ v'.ownBlock = some g) ∧ v'.ownBlock ≠ some S ∧ Kp (fun k => k = S ∨ v.ownBlock = some k) w w' := by
  obtain ⟨i0, hi, hz0, hz1, hz2⟩ := info_parts info_u8
  have hlen' : out.length + T.length ≤ 1099511627776 := hlen
  have hSs : S < w.heap.size := by
    rcases Nat.lt_or_ge S w.heap.size with h | h
    · exact h
    · rw [Array.getElem?_eq_none h] at hS; cases hS
  have c0 : w.cell? ⟨S, 0, none⟩ = some v := by simp [World.cell?, hS]
  have f0 : w.frozen? ⟨S, 0, none⟩ = false := by simp [World.frozen?, hS]
  obtain ⟨gs, cs, hu⟩ : ∃ gs cs, u = .slice (some ⟨gs, 0, none⟩) T.length cs := by
    rcases hsrc.2 with ⟨_, hx⟩ | ⟨g, cap, cur, b1, _⟩
    · exfalso
      have hx' : T.length = 0 := by simpa using hx
      omega
    · exact ⟨g, cap, b1⟩
  have hcells := hsrc.cells (g := gs) (by rw [hu]; rfl)
  subst hu
  have hcH := Lib.hid hcells
  have hSH := Lib.hid hS
  have hvSH := Lib.hid hvS
  have hTl : (bvs T).length = T.length := bvs_length T
  have hTlH := Lib.hid hTl
  have hownH := Lib.hid hown
  clear hcells hS hvS hlen hsrc hTl hown
  go_enter Tryz.func199, Tryz.ntmps199
  go_wp2_with (at_builtin; refine wpList_append_lies _ rfl (.tmp 10) (.tmp 11) 36 rfl N 5 i0 (.int .u8 0) 1 1 Tryz.underlying36 hi hz0 hz1 hz2 rfl (by omega) v out.length (bvs out) rfl hownH.out ⟨gs, 0, none⟩ T.length cs (bvs T) rfl ?c0 ?c1 ?c2 hT ?c3 ?c4 hN (w.heap.size) rfl ?next)
  case c0 => rw [hTlH.out]; omega
  case c1 => exact hcH.out
  case c2 =>
    intro u hu
    simp only [bvs, List.mem_map] at hu
    obtain ⟨b, _, rfl⟩ := hu
    rfl
  case c3 => unfold maxLen; omega
  case c4 => omega
  case next =>
    intro g cap w1 hown1 hgrow hat hlt
    have hgne : g ≠ S := by
      rcases hat with hx | hx
      · intro h; apply hvSH.out; rw [hx, h]
      · omega
    have hb1 : w1.heap[S]? = some (.cells #[v] 56 (0, 0)) := (hgrow.block S hSs (fun h => hvSH.out h.symm)).trans hSH.out
    have k0 : w1.cell? ⟨S, 0, none⟩ = some v := by simp [World.cell?, hb1]
    have e0 : w1.frozen? ⟨S, 0, none⟩ = false := by simp [World.frozen?, hb1]
    have hfin : ∃ v', (w1.setCell ⟨S, 0, none⟩ (.slice (some ⟨g, 0, none⟩) (out.length + T.length) cap)).heap[S]? = some (.cells #[v'] 56 (0, 0)) ∧ (w1.setCell ⟨S, 0, none⟩ (.slice (some ⟨g, 0, none⟩) (out.length + T.length) cap)).ownsRow N 5 1 v' (out ++ T).length (bvs (out ++ T)) ∧ (v'.ownBlock = v.ownBlock ∨ ∃ g, w.heap.size ≤ g ∧ v'.ownBlock = some g) ∧ v'.ownBlock ≠ some S ∧ Kp (fun k => k = S ∨ v.ownBlock = some k) w (w1.setCell ⟨S, 0, none⟩ (.slice (some ⟨g, 0, none⟩) (out.length + T.length) cap)) := by
      refine ⟨.slice (some ⟨g, 0, none⟩) (out.length + T.length) cap, ?_, ?_, ?_, ?_, ?_⟩
      · simp [World.setCell, Array.getElem?_modify, hb1]
      · rw [bvs_append, List.length_append]
        refine ⟨hown1.1, ?_⟩
        rcases hown1.2 with a | ⟨g', cap', cur', b1, b2, b3, b4⟩
        · exact .inl a
        · refine .inr ⟨g', cap', cur', b1, b2, ?_, b4⟩
          have hgg : g' = g := by injection b1 with b1; injection b1 with b1; injection b1 with b1; exact b1.symm
          rw [Below.heap_setCell w1 ⟨S, 0, none⟩ _ g' (by rw [hgg]; exact hgne)]
          exact b3
      · rcases hat with hx | hx
        · left; rw [hx]; rfl
        · right; exact ⟨g, by omega, rfl⟩
      · intro h
        have : g = S := Option.some.inj h
        exact hgne this
      · exact ((grown_kp hgrow).mono (fun k _ h => .inr h)).setCell S 0 _ (.inl (.inl rfl))
    have hfinH := Lib.hid hfin
    clear hfin hown1 hgrow hat hb1 hcH hSH
    go_wp2
    go_ret2
    exact ⟨rfl, hfinH.out⟩
end Go.Proofs.YtokmkkkanphihaaGreatRDoor
