/- The encoder's room ('grow') and what it looks back on ('getPreviousRune'). -/
import Derived.Test.YtokmkkkanphihaaGreatRDoorEnc
import Derived.Laws.CopyOwn
namespace Go.Proofs.YtokmkkkanphihaaGreatRDoor
open Go.RowKit

theorem Buf.form {w : World} {N : Nat} {v : Value} {bb : Option Nat} {out : List UInt8} (h : Buf w N v bb out) :
    (v = .slice none 0 0 ∧ bb = none ∧ out = []) ∨ ∃ g cap cur, v = .slice (some ⟨g, 0, none⟩) out.length cap ∧ bb = some g ∧ N ≤ g ∧ w.heap[g]? = some (.cells cur 5 (0, 0)) ∧ out.length ≤ cap ∧ cap ≤ maxLen ∧ cur.size = cap ∧
      (∀ i (hi : i < out.length), w.cell? ⟨g, i, none⟩ = some (bv out[i])) := by
  obtain ⟨⟨h1, h2⟩, h3⟩ := h
  rcases h2 with ⟨a, b⟩ | ⟨g, cap, cur, a, b, c, d, e, f, k⟩
  · left
    refine ⟨a, ?_, ?_⟩
    · rw [← h3, a]; rfl
    · exact List.length_eq_zero_iff.1 b
  · right
    refine ⟨g, cap, cur, a, ?_, b, c, d, e, by simpa using f, fun i hi => ?_⟩
    · rw [← h3, a]; rfl
    · have hk : (cur.toList.take (out.length * 1))[i]? = (bvs out)[i]? := by rw [k]
      simp only [Nat.mul_one, List.getElem?_take, if_pos hi, bvs, List.getElem?_map, List.getElem?_eq_getElem hi, Option.map_some] at hk
      simp [World.cell?, c]
      simpa using hk

set_option maxHeartbeats 800000 in
theorem getPreviousRune_any {w0 w : World} {b0 : Option Nat} {N e : Nat} {s : St} {l : List UInt8} {c : UInt8} (h : EncF w0 b0 N e s w) (ho : s.out = l ++ [c]) (hlen : s.out.length ≤ lim) :
    Calls Tryz.prog 195 #[.pointer (some ⟨e, 0, none⟩)] w fun ev w' => ev = .returned (.int .u8 (c.toNat : Int)) ∧ w = w' := by
  obtain ⟨bb, hE, hF⟩ := h
  obtain ⟨v, hB, c0, _, _, _, _, _, hfz, hes, hNe, hN⟩ := hE.cells
  rcases hB.form with ⟨_, _, h0⟩ | ⟨g, cap, cur, rfl, _, _, _, hcap, hmax, _, hc⟩
  · rw [h0] at ho; simp at ho
  have hl1 : s.out.length = l.length + 1 := by rw [ho]; simp
  have hcl : w.cell? ⟨g, l.length, none⟩ = some (.int .u8 (c.toNat : Int)) := by
    rw [hc l.length (by omega)]; simp [bv, ho]
  have hlen' : l.length + 1 ≤ 1099511627776 := by have : s.out.length ≤ 1099511627776 := hlen; omega
  unfold maxLen at hmax
  rw [hl1] at c0 hcap
  clear hB hE hF hfz hc ho hlen hl1
  go_enter Tryz.func195, Tryz.ntmps195
  go_wp2
  go_ret
  exact ⟨rfl, rfl⟩

set_option maxHeartbeats 800000 in
/-- There is room already. -/
theorem grow_room {w0 w : World} {b0 : Option Nat} {N e : Nat} {s : St} {n : Nat} {ao : Option Addr} {len cap : Nat} (h : EncF w0 b0 N e s w) (hn : n ≤ lim)
    (c0 : w.cell? ⟨e, 0, none⟩ = some (.slice ao len cap)) (hlc : len ≤ cap) (hcap : cap ≤ maxLen) (hroom : len + n ≤ cap) :
    Calls Tryz.prog 30 #[.pointer (some ⟨e, 0, none⟩), .int .i64 (n : Int)] w fun ev w' => ev = .returned (.tuple #[]) ∧ EncF w0 b0 N e s w' := by
  have hH := Lib.hid h
  clear h
  have hn' : n ≤ 1099511627776 := hn
  clear hn
  unfold maxLen at hcap
  have hd : decide ((cap : Int) - (len : Int) < (n : Int)) = false := by simp; omega
  go_enter Tryz.func30, Tryz.ntmps30
  go_wp2
  go_quiet (fail)
  go_wp2
  go_end0
  exact ⟨rfl, hH.out.drewN _⟩


theorem run_mk (wx : World) (l c : Nat) (hlc : l ≤ c) (hc : c ≤ 17592186044416) :
    (Instr.makeSlice 36 (.int .i64 (l : Int)) (.int .i64 (c : Int))).run Tryz.prog wx = .ok (.slice (some ⟨wx.heap.size, 0, none⟩) l c) (wx.alloc (.cells (madeCells #[.int .u8 0] c) 5)) := by
  obtain ⟨i0, hi, hz0, hz1, hz2⟩ := info_parts info_u8
  have h := run_make (P := Tryz.prog) (w := wx) 36 5 i0 (.int .u8 0) Tryz.underlying36 hi hz0 .i64 .i64 (l : Int) (c : Int) (by omega) (by omega) (by rw [hz2]; omega) (by omega)
  simpa [hz1, Value.cells] using h

/-- Behind the copy: a new row that begins with what is written, stored into the encoder. -/
theorem EncF.grown {w0 w w2 : World} {b0 : Option Nat} {N e : Nat} {s : St} {c : Nat} {cur : Array Value} (h : EncF w0 b0 N e s w)
    (hother : ∀ k, k < w.heap.size → w2.heap[k]? = w.heap[k]?) (hsz : w.heap.size < w2.heap.size) (hos : w2.os = w.os) (htp : w2.tape = w.tape) (hou : w2.output = w.output)
    (hg : w2.heap[w.heap.size]? = some (.cells cur 5 (0, 0))) (hcs : cur.size = c) (hlc : s.out.length ≤ c) (hc : c ≤ maxLen) (hcur : cur.toList.take s.out.length = bvs s.out) :
    EncF w0 b0 N e s (w2.setCell ⟨e, 0, none⟩ (.slice (some ⟨w.heap.size, 0, none⟩) s.out.length c)) := by
  obtain ⟨bb, hE, hF⟩ := h
  have hN : N ≤ w.heap.size := hE.cells.choose_spec.2.2.2.2.2.2.2.2.2.2
  have := EncF.put (w0 := w0) (b0 := b0) (w1 := w2) (new := []) (v' := .slice (some ⟨w.heap.size, 0, none⟩) s.out.length c) hE hF
    ⟨w2, hother, by omega, hos, htp, hou, ⟨rfl, rfl, rfl, Nat.le_refl _, fun _ _ _ => rfl⟩⟩
    ⟨by simp, .inr ⟨w.heap.size, c, cur, by simp, hN, hg, by simpa using hlc, hc, by simpa using hcs, by simpa using hcur⟩⟩ (.inr ⟨w.heap.size, Nat.le_refl _, rfl⟩)
  rwa [St.add_nil] at this

theorem setRow_other (W : World) (g k : Nat) (cs : Array Value) (h : k ≠ g) : (W.setRow g cs).heap[k]? = W.heap[k]? := by
  simp only [World.setRow, Array.getElem?_modify]
  rw [if_neg (Ne.symm h)]

set_option maxHeartbeats 1600000 in
set_option maxRecDepth 100000 in
/-- A new row is made, what is written is copied over. -/
theorem grow_grows {w0 w : World} {b0 : Option Nat} {N e : Nat} {s : St} {n : Nat} {g cap : Nat} (h : EncF w0 b0 N e s w) (hn : n ≤ lim)
    (c0 : w.cell? ⟨e, 0, none⟩ = some (.slice (some ⟨g, 0, none⟩) s.out.length cap)) (hlc : s.out.length ≤ cap) (hlen : s.out.length ≤ lim) (hroom : cap < s.out.length + n)
    (hsrc : ∀ i (hi : i < s.out.length), w.cell? ⟨g, i, none⟩ = some (bv s.out[i])) (hgl : g < w.heap.size) (hel : e < w.heap.size) (f0 : w.frozen? ⟨e, 0, none⟩ = false) :
    Calls Tryz.prog 30 #[.pointer (some ⟨e, 0, none⟩), .int .i64 (n : Int)] w fun ev w' => ev = .returned (.tuple #[]) ∧ EncF w0 b0 N e s w' := by
  have hn' : n ≤ 1099511627776 := hn
  have hlen' : s.out.length ≤ 1099511627776 := hlen
  clear hn hlen
  have hmk : ∀ wx : World, (Instr.makeSlice 36 (.int .i64 (s.out.length : Int)) (.int .i64 (2 * (cap : Int) + (n : Int)))).run Tryz.prog wx = .ok (.slice (some ⟨wx.heap.size, 0, none⟩) s.out.length (2 * cap + n)) (wx.alloc (.cells (madeCells #[.int .u8 0] (2 * cap + n)) 5)) := by
    intro wx
    have := run_mk wx s.out.length (2 * cap + n) (by omega) (by omega)
    simpa using this
  obtain ⟨len, hlenE⟩ : ∃ len, len = s.out.length := ⟨_, rfl⟩
  rw [← hlenE] at hmk c0 hlc hlen' hroom
  have hd : decide ((cap : Int) - (len : Int) < (n : Int)) = true := by simp; omega
  have hH := Lib.hid h
  have hsrcH := Lib.hid hsrc
  have hlenH := Lib.hid hlenE
  clear h hsrc hlenE
  go_enter Tryz.func30, Tryz.ntmps30
  go_wp2
  go_quiet (fail)
  have c1 : (w.drewN nq).cell? ⟨e, 0, none⟩ = some (.slice (some ⟨g, 0, none⟩) len cap) := by simpa using c0
  have f1 : (w.drewN nq).frozen? ⟨e, 0, none⟩ = false := by simpa using f0
  have hH1 : Hid (EncF w0 b0 N e s (w.drewN nq)) := hH.out.drewN nq
  have hsrc1 : Hid (∀ i (hi : i < s.out.length), (w.drewN nq).cell? ⟨g, i, none⟩ = some (bv s.out[i])) := hsrcH.out
  have hel1 : e < (w.drewN nq).heap.size := hel
  have hgl1 : g < (w.drewN nq).heap.size := hgl
  clear c0 hH f0 hsrcH hel hgl
  generalize w.drewN nq = w1 at *
  go_wp2
  have hw1 : IntKind.i64.wrap (2 * (cap : Int)) = 2 * (cap : Int) := IntWalk.i64_in _ (by omega)
  have hw2 : IntKind.i64.wrap (2 * (cap : Int) + (n : Int)) = 2 * (cap : Int) + (n : Int) := IntWalk.i64_in _ (by omega)
  go_still_tail 13, (by kernel_rfl)
  clear hw1 hw2
  have hrowc : ∀ (W : World) (cs : Array Value), (W.setRow w1.heap.size cs).cell? ⟨e, 0, none⟩ = W.cell? ⟨e, 0, none⟩ := fun W cs => by
    refine World.cell?_of_block ?_
    simp only [World.setRow, Array.getElem?_modify]
    rw [if_neg (by omega)]
  have hrowf : ∀ (W : World) (cs : Array Value), (W.setRow w1.heap.size cs).frozen? ⟨e, 0, none⟩ = W.frozen? ⟨e, 0, none⟩ := fun W cs => by
    refine World.frozen?_of_block ?_
    simp only [World.setRow, Array.getElem?_modify]
    rw [if_neg (by omega)]
  go_wp2_with (refine wpList_copy_own rfl (.tmp 32) (.tmp 36) 36 36 rfl 5 Tryz.underlying36 (by kernel_rfl) w1.heap.size 0 len (2 * cap + n) ⟨g, 0, none⟩ len cap rfl rfl (madeCells #[.int .u8 0] (2 * cap + n)) 5 ?hg (bvs s.out) ?hn ?hsrc ?hfit ?h1 ?next)
  case hg =>
    show (World.alloc _ _).heap[w1.heap.size]? = _
    exact heap_alloc_new w1 _
  case hn => simp [hlenH.out]
  case hsrc =>
    intro j v hj
    have hj' : j < s.out.length := by
      have := (List.getElem?_eq_some_iff.1 hj).1
      simpa using this
    have hc := hsrc1.out j hj'
    simp only [bvs, List.getElem?_map, List.getElem?_eq_getElem hj', Option.map_some, Option.some.injEq] at hj
    subst hj
    have ead : (⟨g, 0, none⟩ : Addr).add j = ⟨g, j, none⟩ := by unfold Addr.add; split <;> simp_all
    rw [ead, World.cell?_drew, World.cell?_alloc_past _ _ _ hgl1]
    exact hc
  case hfit => simp [size_madeCells, hlenH.out.symm]; omega
  case h1 => intro v hv; simp [bvs, bv] at hv; obtain ⟨b, _, rfl⟩ := hv; rfl
  go_end0
  refine ⟨rfl, ?_⟩
  obtain rfl := hlenH.out
  refine EncF.grown (cur := (bvs s.out ++ List.drop s.out.length (madeCells #[.int .u8 0] (2 * cap + n)).toList).toArray) hH1.out (fun k hk => (setRow_other _ _ _ _ (by omega)).trans (heap_alloc_old w1 _ k hk)) (by simp [World.setRow]) rfl rfl rfl ?_ ?_ ?_ ?_ ?_
  · simp only [World.setRow, Array.getElem?_modify]
    rw [if_pos trivial]
    show Option.map _ ((World.alloc _ _).heap[w1.heap.size]?) = _
    rw [heap_alloc_new w1 _]
    rfl
  · simp [size_madeCells]; omega
  · omega
  · unfold maxLen; omega
  · simp

set_option maxHeartbeats 1600000 in
set_option maxRecDepth 100000 in
/-- A first row is made. -/
theorem grow_nil {w0 w : World} {b0 : Option Nat} {N e : Nat} {s : St} {n : Nat} (h : EncF w0 b0 N e s w) (hn : n ≤ lim)
    (c0 : w.cell? ⟨e, 0, none⟩ = some (.slice none 0 0)) (hout : s.out = []) (hroom : 0 < n) (hel : e < w.heap.size) (f0 : w.frozen? ⟨e, 0, none⟩ = false) :
    Calls Tryz.prog 30 #[.pointer (some ⟨e, 0, none⟩), .int .i64 (n : Int)] w fun ev w' => ev = .returned (.tuple #[]) ∧ EncF w0 b0 N e s w' := by
  have hn' : n ≤ 1099511627776 := hn
  clear hn
  have hmk : ∀ wx : World, (Instr.makeSlice 36 (.int .i64 0) (.int .i64 (n : Int))).run Tryz.prog wx = .ok (.slice (some ⟨wx.heap.size, 0, none⟩) 0 n) (wx.alloc (.cells (madeCells #[.int .u8 0] n) 5)) := by
    intro wx
    have := run_mk wx 0 n (by omega) (by omega)
    simpa using this
  have hH := Lib.hid h
  have houtH := Lib.hid hout
  clear h hout
  go_enter Tryz.func30, Tryz.ntmps30
  go_wp2
  go_quiet (fail)
  have c1 : (w.drewN nq).cell? ⟨e, 0, none⟩ = some (.slice none 0 0) := by simpa using c0
  have f1 : (w.drewN nq).frozen? ⟨e, 0, none⟩ = false := by simpa using f0
  have hH1 : Hid (EncF w0 b0 N e s (w.drewN nq)) := hH.out.drewN nq
  have hel1 : e < (w.drewN nq).heap.size := hel
  clear c0 hH f0 hel
  generalize w.drewN nq = w1 at *
  go_wp2
  have hw0 : IntKind.i64.wrap 0 = 0 := rfl
  have hw1 : IntKind.i64.wrap (n : Int) = (n : Int) := IntWalk.i64_in _ (by omega)
  go_still_tail 13, (by kernel_rfl)
  clear hw0 hw1
  go_wp2_with (refine wpList_copy_nothing rfl (.tmp 32) (.tmp 36) 36 36 rfl 5 Tryz.underlying36 (by kernel_rfl) (some ⟨w1.heap.size, 0, none⟩) none 0 n 0 0 rfl rfl (by simp) ?next)
  go_end0
  refine ⟨rfl, ?_⟩
  have hfin := EncF.grown (c := n) (cur := madeCells #[.int .u8 0] n) (w2 := (w1.alloc (.cells (madeCells #[.int .u8 0] n) 5)).drew) hH1.out (fun k hk => heap_alloc_old w1 _ k hk) (by simp) rfl rfl rfl (heap_alloc_new w1 _) (by simp [size_madeCells]) (by rw [houtH.out]; exact Nat.zero_le _) (by unfold maxLen; omega) (by rw [houtH.out]; rfl)
  rw [houtH.out, World.setCell_drew, World.setCell_alloc_past _ _ _ _ hel1] at hfin
  exact hfin

theorem grow_any {w0 w : World} {b0 : Option Nat} {N e : Nat} {s : St} {n : Nat} (h : EncF w0 b0 N e s w) (hn : n ≤ lim) (hlen : s.out.length ≤ lim) :
    Calls Tryz.prog 30 #[.pointer (some ⟨e, 0, none⟩), .int .i64 (n : Int)] w fun ev w' => ev = .returned (.tuple #[]) ∧ EncF w0 b0 N e s w' := by
  have h' := h
  obtain ⟨bb, hE, hF⟩ := h
  obtain ⟨v, hB, c0, _, _, _, _, _, hfz, hes, hNe, hN⟩ := hE.cells
  rcases hB.form with ⟨rfl, _, h0⟩ | ⟨g, cap, cur, rfl, _, _, hg, hcap, hmax, _, hc⟩
  · by_cases hr : n = 0
    · exact grow_room (len := 0) (cap := 0) h' hn c0 (Nat.le_refl _) (by unfold maxLen; omega) (by omega)
    · exact grow_nil h' hn c0 h0 (by omega) hes (hfz 0)
  · by_cases hr : s.out.length + n ≤ cap
    · exact grow_room h' hn c0 hcap hmax hr
    · have hgl : g < w.heap.size := by
        rcases Nat.lt_or_ge g w.heap.size with h | h
        · exact h
        · rw [Array.getElem?_eq_none h] at hg; cases hg
      exact grow_grows h' hn c0 hcap hlen (by omega) hc hgl hes (hfz 0)

end Go.Proofs.YtokmkkkanphihaaGreatRDoor
