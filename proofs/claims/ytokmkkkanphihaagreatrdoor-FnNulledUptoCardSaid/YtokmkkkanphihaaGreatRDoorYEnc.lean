/- What an encoder's memory looks like, and what each of its small writers appends. The encoder's block and the row of bytes that it owns are the only memory that a writer turns. -/
import Derived.Test.YtokmkkkanphihaaGreatRDoorProg
import Derived.WalkKit
import Derived.ProofKit
import Derived.Handy
import Derived.Outline
import Derived.Deep.QuietTactic
import Derived.BigQuiet
import Derived.StillTailTactics
import Derived.WalkSpells
import Derived.WalkLawsBesides
import Derived.Deep.AppendLies
import Derived.Deep.LoopGhost
import Derived.Deep.CutRange
import Derived.Lib.AppendStr
import Derived.Lib.Hide
import Derived.Laws.CopyOwn
namespace Go.Proofs.YtokmkkkanphihaaGreatRDoor
open Go.RowKit

/-- A byte as a cell. -/
def bv (b : UInt8) : Value := .int .u8 (b.toNat : Int)
def bvs (l : List UInt8) : List Value := l.map bv
@[simp] theorem bvs_length (l : List UInt8) : (bvs l).length = l.length := by simp [bvs]
theorem bvs_append (a b : List UInt8) : bvs (a ++ b) = bvs a ++ bvs b := by simp [bvs]
/-- A slice of bytes that is owned from block N on, and its block. -/
def Buf (w : World) (N : Nat) (v : Value) (bb : Option Nat) (out : List UInt8) : Prop :=
  w.ownsRow N 5 1 v out.length (bvs out) ∧ v.ownBlock = bb

/-- The state of an encoder: what is written, its keys, its writer. -/
structure St where
  out : List UInt8
  hk : Bool
  ks : Value
  wr : Value

def St.add (s : St) (l : List UInt8) : St := { s with out := s.out ++ l }
@[simp] theorem St.add_out (s : St) (l : List UInt8) : (s.add l).out = s.out ++ l := rfl
@[simp] theorem St.add_hk (s : St) (l : List UInt8) : (s.add l).hk = s.hk := rfl
@[simp] theorem St.add_ks (s : St) (l : List UInt8) : (s.add l).ks = s.ks := rfl
@[simp] theorem St.add_wr (s : St) (l : List UInt8) : (s.add l).wr = s.wr := rfl
theorem St.add_add (s : St) (l m : List UInt8) : (s.add l).add m = s.add (l ++ m) := by simp [St.add]
theorem St.add_nil (s : St) : s.add [] = s := by simp [St.add]

def encCells (v : Value) (s : St) : Array Value := #[v, .int .u8 0, s.wr, .nilIface, .bool s.hk, s.ks]

/-- The encoder at block e: its cells, and the row of bytes. -/
def Enc (w : World) (N e : Nat) (bb : Option Nat) (s : St) : Prop :=
  ∃ v, w.heap[e]? = some (.cells (encCells v s) 70 (0, 0)) ∧ Buf w N v bb s.out ∧ bb ≠ some e ∧ N ≤ e

/-- From w to w' nothing has turned but block e and the row bb; the row is bb' now: the same, or new. -/
structure Fr (e : Nat) (bb : Option Nat) (w w' : World) (bb' : Option Nat) : Prop where
  os : w'.os = w.os
  tape : w'.tape = w.tape
  output : w'.output = w.output
  size : w.heap.size ≤ w'.heap.size
  block : ∀ k, k < w.heap.size → k ≠ e → some k ≠ bb → w'.heap[k]? = w.heap[k]?
  own : bb' = bb ∨ ∃ g, w.heap.size ≤ g ∧ bb' = some g

theorem Fr.refl (e : Nat) (bb : Option Nat) (w : World) : Fr e bb w w bb := ⟨rfl, rfl, rfl, Nat.le_refl _, fun _ _ _ _ => rfl, .inl rfl⟩

theorem Fr.trans {e : Nat} {b0 b1 b2 : Option Nat} {w0 w1 w2 : World} (h : Fr e b0 w0 w1 b1) (k : Fr e b1 w1 w2 b2) : Fr e b0 w0 w2 b2 := by
  refine ⟨k.os.trans h.os, k.tape.trans h.tape, k.output.trans h.output, Nat.le_trans h.size k.size, fun i hi he hb => ?_, ?_⟩
  · refine (k.block i (Nat.lt_of_lt_of_le hi h.size) he ?_).trans (h.block i hi he hb)
    rcases h.own with h1 | ⟨g, hg, h1⟩
    · rw [h1]; exact hb
    · rw [h1]; intro hx; cases hx; omega
  · rcases k.own with k1 | ⟨g, hg, k1⟩
    · rw [k1]; exact h.own
    · exact .inr ⟨g, Nat.le_trans h.size hg, k1⟩

/-- The encoder in w, all else as it was in w0. -/
def EncF (w0 : World) (b0 : Option Nat) (N e : Nat) (s : St) (w : World) : Prop :=
  ∃ bb, Enc w N e bb s ∧ Fr e b0 w0 w bb

theorem EncF.refl {w : World} {N e : Nat} {bb : Option Nat} {s : St} (h : Enc w N e bb s) : EncF w bb N e s w := ⟨bb, h, Fr.refl e bb w⟩

theorem EncF.trans {w0 w1 w2 : World} {b0 b1 : Option Nat} {N e : Nat} {s : St} (h : Fr e b0 w0 w1 b1) (k : EncF w1 b1 N e s w2) : EncF w0 b0 N e s w2 := by
  obtain ⟨b2, k1, k2⟩ := k
  exact ⟨b2, k1, h.trans k2⟩

/-- A step that turns neither the encoder's block nor its row. -/
theorem Enc.step {w w' : World} {N e : Nat} {bb : Option Nat} {s : St} (h : Enc w N e bb s) (hb : ∀ k, k < w.heap.size → w'.heap[k]? = w.heap[k]?) (_hs : w.heap.size ≤ w'.heap.size) : Enc w' N e bb s := by
  obtain ⟨v, h1, ⟨h2, h3⟩, h4, h5⟩ := h
  have he : e < w.heap.size := by
    rcases Nat.lt_or_ge e w.heap.size with h | h
    · exact h
    · rw [Array.getElem?_eq_none h] at h1; cases h1
  refine ⟨v, (hb e he).trans h1, ⟨?_, h3⟩, h4, h5⟩
  obtain ⟨a1, a2⟩ := h2
  refine ⟨a1, ?_⟩
  rcases a2 with a2 | ⟨g, cap, cur, b1, b2, b3, b4⟩
  · exact .inl a2
  · refine .inr ⟨g, cap, cur, b1, b2, ?_, b4⟩
    have hg : g < w.heap.size := by
      rcases Nat.lt_or_ge g w.heap.size with h | h
      · exact h
      · rw [Array.getElem?_eq_none h] at b3; cases b3
    exact (hb g hg).trans b3

theorem heap_alloc_old (w : World) (o : Obj) (k : Nat) (h : k < w.heap.size) : (w.alloc o).heap[k]? = w.heap[k]? := Below.heap_alloc w o k h

theorem EncF.alloc {w0 w : World} {b0 : Option Nat} {N e : Nat} {s : St} (h : EncF w0 b0 N e s w) (o : Obj) : EncF w0 b0 N e s (w.alloc o) := by
  obtain ⟨bb, h1, h2⟩ := h
  refine ⟨bb, h1.step (fun k hk => heap_alloc_old w o k hk) (by simp), h2.trans ⟨rfl, rfl, rfl, by simp, fun k hk _ _ => heap_alloc_old w o k hk, .inl rfl⟩⟩

theorem EncF.drew {w0 w : World} {b0 : Option Nat} {N e : Nat} {s : St} (h : EncF w0 b0 N e s w) : EncF w0 b0 N e s w.drew := by
  obtain ⟨bb, h1, h2⟩ := h
  exact ⟨bb, h1.step (fun _ _ => rfl) (Nat.le_refl _), h2.trans ⟨rfl, rfl, rfl, Nat.le_refl _, fun _ _ _ _ => rfl, .inl rfl⟩⟩

theorem EncF.drewN {w0 w : World} {b0 : Option Nat} {N e : Nat} {s : St} (h : EncF w0 b0 N e s w) (n : Nat) : EncF w0 b0 N e s (w.drewN n) := by
  obtain ⟨bb, h1, h2⟩ := h
  exact ⟨bb, h1.step (fun _ _ => rfl) (Nat.le_refl _), h2.trans ⟨rfl, rfl, rfl, Nat.le_refl _, fun _ _ _ _ => rfl, .inl rfl⟩⟩

/-- The cells of the encoder's block, for the walk. -/
theorem Enc.cells {w : World} {N e : Nat} {bb : Option Nat} {s : St} (h : Enc w N e bb s) :
    ∃ v, Buf w N v bb s.out ∧ w.cell? ⟨e, 0, none⟩ = some v ∧ w.cell? ⟨e, 1, none⟩ = some (.int .u8 0) ∧ w.cell? ⟨e, 2, none⟩ = some s.wr ∧ w.cell? ⟨e, 3, none⟩ = some .nilIface ∧
      w.cell? ⟨e, 4, none⟩ = some (.bool s.hk) ∧ w.cell? ⟨e, 5, none⟩ = some s.ks ∧ (∀ i, w.frozen? ⟨e, i, none⟩ = false) ∧ e < w.heap.size ∧ N ≤ e ∧ N ≤ w.heap.size := by
  obtain ⟨v, h1, h2, _, h5⟩ := h
  have he : e < w.heap.size := by
    rcases Nat.lt_or_ge e w.heap.size with h | h
    · exact h
    · rw [Array.getElem?_eq_none h] at h1; cases h1
  have hc : ∀ k, w.cell? ⟨e, k, none⟩ = (encCells v s)[k]? := fun k => by simp [World.cell?, h1]
  refine ⟨v, h2, (hc 0).trans rfl, (hc 1).trans rfl, (hc 2).trans rfl, (hc 3).trans rfl, (hc 4).trans rfl, (hc 5).trans rfl, fun i => by simp [World.frozen?, h1], he, h5, by omega⟩

/-- BEHIND AN append: the new row is stored into the encoder. -/
theorem EncF.put {w0 w w1 : World} {b0 bb : Option Nat} {N e : Nat} {s : St} {new : List UInt8} {v' : Value} (h : Enc w N e bb s) (hF : Fr e b0 w0 w bb)
    (hgrow : ∃ wa : World, (∀ k, k < w.heap.size → wa.heap[k]? = w.heap[k]?) ∧ w.heap.size ≤ wa.heap.size ∧ wa.os = w.os ∧ wa.tape = w.tape ∧ wa.output = w.output ∧ wa.grownBy w1 bb)
    (hown : w1.ownsRow N 5 1 v' (s.out ++ new).length (bvs (s.out ++ new)))
    (hblk : v'.ownBlock = bb ∨ ∃ g, w.heap.size ≤ g ∧ v'.ownBlock = some g) :
    EncF w0 b0 N e (s.add new) (w1.setCell ⟨e, 0, none⟩ v') := by
  obtain ⟨v, h1, h2, h4, h5⟩ := h
  obtain ⟨wa, ha, has, hos, htp, hou, hg⟩ := hgrow
  have he : e < w.heap.size := by
    rcases Nat.lt_or_ge e w.heap.size with h | h
    · exact h
    · rw [Array.getElem?_eq_none h] at h1; cases h1
  have he1 : w1.heap[e]? = some (.cells (encCells v s) 70 (0, 0)) :=
    ((hg.block e (by omega) (Ne.symm h4)).trans (ha e he)).trans h1
  have hne : v'.ownBlock ≠ some e := by
    rcases hblk with hb | ⟨g, hg', hb⟩
    · rw [hb]; exact h4
    · rw [hb]; intro hx; cases hx; omega
  have hset : (w1.setCell ⟨e, 0, none⟩ v').heap[e]? = some (.cells (encCells v' s) 70 (0, 0)) := by
    simp [World.setCell, Array.getElem?_modify, he1, encCells]
  have hother : ∀ k, k ≠ e → (w1.setCell ⟨e, 0, none⟩ v').heap[k]? = w1.heap[k]? := fun k hk => Below.heap_setCell w1 ⟨e, 0, none⟩ v' k hk
  have hsz : (w1.setCell ⟨e, 0, none⟩ v').heap.size = w1.heap.size := by simp [World.setCell]
  refine ⟨v'.ownBlock, ⟨v', hset, ⟨?_, rfl⟩, hne, h5⟩, hF.trans ⟨?_, ?_, ?_, ?_, ?_, hblk⟩⟩
  · obtain ⟨a1, a2⟩ := hown
    refine ⟨a1, ?_⟩
    rcases a2 with a2 | ⟨g, cap, cur, b1, b2, b3, b4⟩
    · exact .inl a2
    · refine .inr ⟨g, cap, cur, b1, b2, ?_, b4⟩
      rw [hother g]
      · exact b3
      · intro hx; apply hne; rw [b1, hx]; rfl
  · exact hg.os.trans hos
  · exact hg.tape.trans htp
  · exact hg.output.trans hou
  · rw [hsz]; exact Nat.le_trans has hg.size
  · intro k hk hke hkb
    rw [hother k hke, hg.block k (by omega) hkb, ha k hk]

theorem info_u8 : (Tryz.prog.info? 5).map (fun i => (i.zero, i.size, i.bytes)) = some (some (.int .u8 0), 1, 1) := by kernel_rfl

/-- The largest text that is spoken of. -/
abbrev lim : Nat := 1099511627776

set_option maxHeartbeats 800000 in
/-- writeByte: one byte more. -/
theorem writeByte_any {w0 w : World} {b0 : Option Nat} {N e : Nat} {s : St} (c : UInt8) (h : EncF w0 b0 N e s w) (hlen : s.out.length + 1 ≤ lim) :
    Calls Tryz.prog 31 #[.pointer (some ⟨e, 0, none⟩), .int .u8 (c.toNat : Int)] w fun ev w' => ev = .returned (.tuple #[]) ∧ EncF w0 b0 N e (s.add [c]) w' := by
  obtain ⟨bb, hE, hF⟩ := h
  obtain ⟨v, ⟨hown, hob⟩, c0, _, _, _, _, _, hfz, hes, hNe, hN⟩ := hE.cells
  have f0 := hfz 0
  obtain ⟨i0, hi, hz0, hz1, hz2⟩ := info_parts info_u8
  have hownA : (w.alloc (.cells #[.int .u8 (c.toNat : Int)] 5)).ownsRow N 5 1 v s.out.length (bvs s.out) := hown.alloc _
  have hEH := Lib.hid hE
  have hFH := Lib.hid hF
  have hobH := Lib.hid hob
  clear hE hF hob hfz
  have hlen' : s.out.length + 1 ≤ 1099511627776 := hlen
  clear hlen
  go_enter Tryz.func31, Tryz.ntmps31
  go_wp2_with (at_builtin; refine wpList_append_lies _ rfl (.tmp 8) (.tmp 10) 36 rfl N 5 i0 (.int .u8 0) 1 1 Tryz.underlying36 hi hz0 hz1 hz2 rfl (by omega) v s.out.length (bvs s.out) rfl hownA ⟨w.heap.size, 0, none⟩ 1 1 [.int .u8 (c.toNat : Int)] rfl rfl ?c1 ?c2 (by omega) ?c3 ?c4 (by simp; omega) (w.heap.size + 1) (by simp) ?next)
  case c1 => intro j u hj; match j, hj with | 0, hj => simp at hj; subst hj; simp [Addr.add]
  case c2 => intro u hu; simp at hu; subst hu; rfl
  case c3 => unfold maxLen; omega
  case c4 => omega
  case next =>
    intro g cap w1 hown1 hgrow hat hlt
    have hE := hEH.out
    have hob := hobH.out
    have hne : bb ≠ some e := by obtain ⟨_, _, _, h4, _⟩ := hE; exact h4
    have k0 : w1.cell? ⟨e, 0, none⟩ = some v := by
      rw [World.cell?_of_block (hgrow.block e (by simp; omega) (by rw [hob]; exact Ne.symm hne)), World.cell?_alloc_past _ _ _ hes]; exact c0
    have e0 : w1.frozen? ⟨e, 0, none⟩ = false := by
      rw [World.frozen?_of_block (hgrow.block e (by simp; omega) (by rw [hob]; exact Ne.symm hne)), World.frozen?_alloc_past _ _ _ hes]; exact f0
    have hfin : EncF w0 b0 N e (s.add [c]) (w1.setCell ⟨e, 0, none⟩ (.slice (some ⟨g, 0, none⟩) (s.out.length + 1) cap)) := by
      refine EncF.put hE hFH.out ⟨w.alloc (.cells #[.int .u8 (c.toNat : Int)] 5), fun k hk => heap_alloc_old w _ k hk, by simp, rfl, rfl, rfl, hob ▸ hgrow⟩ ?_ ?_
      · simpa [bvs, bv] using hown1
      · rcases hat with hx | hx
        · left; rw [← hob, hx]; rfl
        · right; exact ⟨g, by omega, rfl⟩
    have hfinH := Lib.hid hfin
    clear hfin hown1 hgrow hat hEH hFH hobH hE hob hownA hown
    go_wp2
    go_end0
    exact ⟨rfl, hfinH.out⟩

end Go.Proofs.YtokmkkkanphihaaGreatRDoor

/- The encoder's room ('grow') and what it looks back on ('getPreviousRune'). -/
namespace Go.Proofs.YtokmkkkanphihaaGreatRDoor
open Go.RowKit

theorem Buf.form {w : World} {N : Nat} {v : Value} {bb : Option Nat} {out : List UInt8} (h : Buf w N v bb out) :
    (v = .slice none 0 0 ∧ bb = none ∧ out = []) ∨ ∃ g cap cur, v = .slice (some ⟨g, 0, none⟩) out.length cap ∧ bb = some g ∧ N ≤ g ∧ w.heap[g]? = some (.cells cur 5 (0, 0)) ∧ out.length ≤ cap ∧ cap ≤ maxLen ∧ cur.size = cap ∧
      (∀ i (hi : i < out.length), w.cell? ⟨g, i, none⟩ = some (bv out[i])) := by
  obtain ⟨⟨h1, h2⟩, h3⟩ := h
  rcases h2 with ⟨a, b⟩ | ⟨g, cap, cur, a, b, c, d, e, f, k⟩
  · left
    refine ⟨a, ?_, ?_⟩
    · rw [← h3, a]; rfl
    · exact List.length_eq_zero_iff.1 b
  · right
    refine ⟨g, cap, cur, a, ?_, b, c, d, e, by simpa using f, fun i hi => ?_⟩
    · rw [← h3, a]; rfl
    · have hk : (cur.toList.take (out.length * 1))[i]? = (bvs out)[i]? := by rw [k]
      simp only [Nat.mul_one, List.getElem?_take, if_pos hi, bvs, List.getElem?_map, List.getElem?_eq_getElem hi, Option.map_some] at hk
      simp [World.cell?, c]
      simpa using hk

set_option maxHeartbeats 800000 in
theorem getPreviousRune_any {w0 w : World} {b0 : Option Nat} {N e : Nat} {s : St} {l : List UInt8} {c : UInt8} (h : EncF w0 b0 N e s w) (ho : s.out = l ++ [c]) (hlen : s.out.length ≤ lim) :
    Calls Tryz.prog 195 #[.pointer (some ⟨e, 0, none⟩)] w fun ev w' => ev = .returned (.int .u8 (c.toNat : Int)) ∧ w = w' := by
  obtain ⟨bb, hE, hF⟩ := h
  obtain ⟨v, hB, c0, _, _, _, _, _, hfz, hes, hNe, hN⟩ := hE.cells
  rcases hB.form with ⟨_, _, h0⟩ | ⟨g, cap, cur, rfl, _, _, _, hcap, hmax, _, hc⟩
  · rw [h0] at ho; simp at ho
  have hl1 : s.out.length = l.length + 1 := by rw [ho]; simp
  have hcl : w.cell? ⟨g, l.length, none⟩ = some (.int .u8 (c.toNat : Int)) := by
    rw [hc l.length (by omega)]; simp [bv, ho]
  have hlen' : l.length + 1 ≤ 1099511627776 := by have : s.out.length ≤ 1099511627776 := hlen; omega
  unfold maxLen at hmax
  rw [hl1] at c0 hcap
  clear hB hE hF hfz hc ho hlen hl1
  go_enter Tryz.func195, Tryz.ntmps195
  go_wp2
  go_ret
  exact ⟨rfl, rfl⟩

set_option maxHeartbeats 800000 in
/-- There is room already. -/
theorem grow_room {w0 w : World} {b0 : Option Nat} {N e : Nat} {s : St} {n : Nat} {ao : Option Addr} {len cap : Nat} (h : EncF w0 b0 N e s w) (hn : n ≤ lim)
    (c0 : w.cell? ⟨e, 0, none⟩ = some (.slice ao len cap)) (hlc : len ≤ cap) (hcap : cap ≤ maxLen) (hroom : len + n ≤ cap) :
    Calls Tryz.prog 30 #[.pointer (some ⟨e, 0, none⟩), .int .i64 (n : Int)] w fun ev w' => ev = .returned (.tuple #[]) ∧ EncF w0 b0 N e s w' := by
  have hH := Lib.hid h
  clear h
  have hn' : n ≤ 1099511627776 := hn
  clear hn
  unfold maxLen at hcap
  have hd : decide ((cap : Int) - (len : Int) < (n : Int)) = false := by simp; omega
  go_enter Tryz.func30, Tryz.ntmps30
  go_wp2
  go_quiet (fail)
  go_wp2
  go_end0
  exact ⟨rfl, hH.out.drewN _⟩


theorem run_mk (wx : World) (l c : Nat) (hlc : l ≤ c) (hc : c ≤ 17592186044416) :
    (Instr.makeSlice 36 (.int .i64 (l : Int)) (.int .i64 (c : Int))).run Tryz.prog wx = .ok (.slice (some ⟨wx.heap.size, 0, none⟩) l c) (wx.alloc (.cells (madeCells #[.int .u8 0] c) 5)) := by
  obtain ⟨i0, hi, hz0, hz1, hz2⟩ := info_parts info_u8
  have h := run_make (P := Tryz.prog) (w := wx) 36 5 i0 (.int .u8 0) Tryz.underlying36 hi hz0 .i64 .i64 (l : Int) (c : Int) (by omega) (by omega) (by rw [hz2]; omega) (by omega)
  simpa [hz1, Value.cells] using h

/-- Behind the copy: a new row that begins with what is written, stored into the encoder. -/
theorem EncF.grown {w0 w w2 : World} {b0 : Option Nat} {N e : Nat} {s : St} {c : Nat} {cur : Array Value} (h : EncF w0 b0 N e s w)
    (hother : ∀ k, k < w.heap.size → w2.heap[k]? = w.heap[k]?) (hsz : w.heap.size < w2.heap.size) (hos : w2.os = w.os) (htp : w2.tape = w.tape) (hou : w2.output = w.output)
    (hg : w2.heap[w.heap.size]? = some (.cells cur 5 (0, 0))) (hcs : cur.size = c) (hlc : s.out.length ≤ c) (hc : c ≤ maxLen) (hcur : cur.toList.take s.out.length = bvs s.out) :
    EncF w0 b0 N e s (w2.setCell ⟨e, 0, none⟩ (.slice (some ⟨w.heap.size, 0, none⟩) s.out.length c)) := by
  obtain ⟨bb, hE, hF⟩ := h
  have hN : N ≤ w.heap.size := hE.cells.choose_spec.2.2.2.2.2.2.2.2.2.2
  have := EncF.put (w0 := w0) (b0 := b0) (w1 := w2) (new := []) (v' := .slice (some ⟨w.heap.size, 0, none⟩) s.out.length c) hE hF
    ⟨w2, hother, by omega, hos, htp, hou, ⟨rfl, rfl, rfl, Nat.le_refl _, fun _ _ _ => rfl⟩⟩
    ⟨by simp, .inr ⟨w.heap.size, c, cur, by simp, hN, hg, by simpa using hlc, hc, by simpa using hcs, by simpa using hcur⟩⟩ (.inr ⟨w.heap.size, Nat.le_refl _, rfl⟩)
  rwa [St.add_nil] at this

theorem setRow_other (W : World) (g k : Nat) (cs : Array Value) (h : k ≠ g) : (W.setRow g cs).heap[k]? = W.heap[k]? := by
  simp only [World.setRow, Array.getElem?_modify]
  rw [if_neg (Ne.symm h)]

set_option maxHeartbeats 1600000 in
set_option maxRecDepth 100000 in
/-- A new row is made, what is written is copied over. -/
theorem grow_grows {w0 w : World} {b0 : Option Nat} {N e : Nat} {s : St} {n : Nat} {g cap : Nat} (h : EncF w0 b0 N e s w) (hn : n ≤ lim)
    (c0 : w.cell? ⟨e, 0, none⟩ = some (.slice (some ⟨g, 0, none⟩) s.out.length cap)) (hlc : s.out.length ≤ cap) (hlen : s.out.length ≤ lim) (hroom : cap < s.out.length + n)
    (hsrc : ∀ i (hi : i < s.out.length), w.cell? ⟨g, i, none⟩ = some (bv s.out[i])) (hgl : g < w.heap.size) (hel : e < w.heap.size) (f0 : w.frozen? ⟨e, 0, none⟩ = false) :
    Calls Tryz.prog 30 #[.pointer (some ⟨e, 0, none⟩), .int .i64 (n : Int)] w fun ev w' => ev = .returned (.tuple #[]) ∧ EncF w0 b0 N e s w' := by
  have hn' : n ≤ 1099511627776 := hn
  have hlen' : s.out.length ≤ 1099511627776 := hlen
  clear hn hlen
  have hmk : ∀ wx : World, (Instr.makeSlice 36 (.int .i64 (s.out.length : Int)) (.int .i64 (2 * (cap : Int) + (n : Int)))).run Tryz.prog wx = .ok (.slice (some ⟨wx.heap.size, 0, none⟩) s.out.length (2 * cap + n)) (wx.alloc (.cells (madeCells #[.int .u8 0] (2 * cap + n)) 5)) := by
    intro wx
    have := run_mk wx s.out.length (2 * cap + n) (by omega) (by omega)
    simpa using this
  obtain ⟨len, hlenE⟩ : ∃ len, len = s.out.length := ⟨_, rfl⟩
  rw [← hlenE] at hmk c0 hlc hlen' hroom
  have hd : decide ((cap : Int) - (len : Int) < (n : Int)) = true := by simp; omega
  have hH := Lib.hid h
  have hsrcH := Lib.hid hsrc
  have hlenH := Lib.hid hlenE
  clear h hsrc hlenE
  go_enter Tryz.func30, Tryz.ntmps30
  go_wp2
  go_quiet (fail)
  have c1 : (w.drewN nq).cell? ⟨e, 0, none⟩ = some (.slice (some ⟨g, 0, none⟩) len cap) := by simpa using c0
  have f1 : (w.drewN nq).frozen? ⟨e, 0, none⟩ = false := by simpa using f0
  have hH1 : Hid (EncF w0 b0 N e s (w.drewN nq)) := hH.out.drewN nq
  have hsrc1 : Hid (∀ i (hi : i < s.out.length), (w.drewN nq).cell? ⟨g, i, none⟩ = some (bv s.out[i])) := hsrcH.out
  have hel1 : e < (w.drewN nq).heap.size := hel
  have hgl1 : g < (w.drewN nq).heap.size := hgl
  clear c0 hH f0 hsrcH hel hgl
  generalize w.drewN nq = w1 at *
  go_wp2
  have hw1 : IntKind.i64.wrap (2 * (cap : Int)) = 2 * (cap : Int) := IntWalk.i64_in _ (by omega)
  have hw2 : IntKind.i64.wrap (2 * (cap : Int) + (n : Int)) = 2 * (cap : Int) + (n : Int) := IntWalk.i64_in _ (by omega)
  go_still_tail 13, (by kernel_rfl)
  clear hw1 hw2
  have hrowc : ∀ (W : World) (cs : Array Value), (W.setRow w1.heap.size cs).cell? ⟨e, 0, none⟩ = W.cell? ⟨e, 0, none⟩ := fun W cs => by
    refine World.cell?_of_block ?_
    simp only [World.setRow, Array.getElem?_modify]
    rw [if_neg (by omega)]
  have hrowf : ∀ (W : World) (cs : Array Value), (W.setRow w1.heap.size cs).frozen? ⟨e, 0, none⟩ = W.frozen? ⟨e, 0, none⟩ := fun W cs => by
    refine World.frozen?_of_block ?_
    simp only [World.setRow, Array.getElem?_modify]
    rw [if_neg (by omega)]
  go_wp2_with (refine wpList_copy_own rfl (.tmp 32) (.tmp 36) 36 36 rfl 5 Tryz.underlying36 (by kernel_rfl) w1.heap.size 0 len (2 * cap + n) ⟨g, 0, none⟩ len cap rfl rfl (madeCells #[.int .u8 0] (2 * cap + n)) 5 ?hg (bvs s.out) ?hn ?hsrc ?hfit ?h1 ?next)
  case hg =>
    show (World.alloc _ _).heap[w1.heap.size]? = _
    exact heap_alloc_new w1 _
  case hn => simp [hlenH.out]
  case hsrc =>
    intro j v hj
    have hj' : j < s.out.length := by
      have := (List.getElem?_eq_some_iff.1 hj).1
      simpa using this
    have hc := hsrc1.out j hj'
    simp only [bvs, List.getElem?_map, List.getElem?_eq_getElem hj', Option.map_some, Option.some.injEq] at hj
    subst hj
    have ead : (⟨g, 0, none⟩ : Addr).add j = ⟨g, j, none⟩ := by unfold Addr.add; split <;> simp_all
    rw [ead, World.cell?_drew, World.cell?_alloc_past _ _ _ hgl1]
    exact hc
  case hfit => simp [size_madeCells, hlenH.out.symm]; omega
  case h1 => intro v hv; simp [bvs, bv] at hv; obtain ⟨b, _, rfl⟩ := hv; rfl
  go_end0
  refine ⟨rfl, ?_⟩
  obtain rfl := hlenH.out
  refine EncF.grown (cur := (bvs s.out ++ List.drop s.out.length (madeCells #[.int .u8 0] (2 * cap + n)).toList).toArray) hH1.out (fun k hk => (setRow_other _ _ _ _ (by omega)).trans (heap_alloc_old w1 _ k hk)) (by simp [World.setRow]) rfl rfl rfl ?_ ?_ ?_ ?_ ?_
  · simp only [World.setRow, Array.getElem?_modify]
    rw [if_pos trivial]
    show Option.map _ ((World.alloc _ _).heap[w1.heap.size]?) = _
    rw [heap_alloc_new w1 _]
    rfl
  · simp [size_madeCells]; omega
  · omega
  · unfold maxLen; omega
  · simp

set_option maxHeartbeats 1600000 in
set_option maxRecDepth 100000 in
/-- A first row is made. -/
theorem grow_nil {w0 w : World} {b0 : Option Nat} {N e : Nat} {s : St} {n : Nat} (h : EncF w0 b0 N e s w) (hn : n ≤ lim)
    (c0 : w.cell? ⟨e, 0, none⟩ = some (.slice none 0 0)) (hout : s.out = []) (hroom : 0 < n) (hel : e < w.heap.size) (f0 : w.frozen? ⟨e, 0, none⟩ = false) :
    Calls Tryz.prog 30 #[.pointer (some ⟨e, 0, none⟩), .int .i64 (n : Int)] w fun ev w' => ev = .returned (.tuple #[]) ∧ EncF w0 b0 N e s w' := by
  have hn' : n ≤ 1099511627776 := hn
  clear hn
  have hmk : ∀ wx : World, (Instr.makeSlice 36 (.int .i64 0) (.int .i64 (n : Int))).run Tryz.prog wx = .ok (.slice (some ⟨wx.heap.size, 0, none⟩) 0 n) (wx.alloc (.cells (madeCells #[.int .u8 0] n) 5)) := by
    intro wx
    have := run_mk wx 0 n (by omega) (by omega)
    simpa using this
  have hH := Lib.hid h
  have houtH := Lib.hid hout
  clear h hout
  go_enter Tryz.func30, Tryz.ntmps30
  go_wp2
  go_quiet (fail)
  have c1 : (w.drewN nq).cell? ⟨e, 0, none⟩ = some (.slice none 0 0) := by simpa using c0
  have f1 : (w.drewN nq).frozen? ⟨e, 0, none⟩ = false := by simpa using f0
  have hH1 : Hid (EncF w0 b0 N e s (w.drewN nq)) := hH.out.drewN nq
  have hel1 : e < (w.drewN nq).heap.size := hel
  clear c0 hH f0 hel
  generalize w.drewN nq = w1 at *
  go_wp2
  have hw0 : IntKind.i64.wrap 0 = 0 := rfl
  have hw1 : IntKind.i64.wrap (n : Int) = (n : Int) := IntWalk.i64_in _ (by omega)
  go_still_tail 13, (by kernel_rfl)
  clear hw0 hw1
  go_wp2_with (refine wpList_copy_nothing rfl (.tmp 32) (.tmp 36) 36 36 rfl 5 Tryz.underlying36 (by kernel_rfl) (some ⟨w1.heap.size, 0, none⟩) none 0 n 0 0 rfl rfl (by simp) ?next)
  go_end0
  refine ⟨rfl, ?_⟩
  have hfin := EncF.grown (c := n) (cur := madeCells #[.int .u8 0] n) (w2 := (w1.alloc (.cells (madeCells #[.int .u8 0] n) 5)).drew) hH1.out (fun k hk => heap_alloc_old w1 _ k hk) (by simp) rfl rfl rfl (heap_alloc_new w1 _) (by simp [size_madeCells]) (by rw [houtH.out]; exact Nat.zero_le _) (by unfold maxLen; omega) (by rw [houtH.out]; rfl)
  rw [houtH.out, World.setCell_drew, World.setCell_alloc_past _ _ _ _ hel1] at hfin
  exact hfin

theorem grow_any {w0 w : World} {b0 : Option Nat} {N e : Nat} {s : St} {n : Nat} (h : EncF w0 b0 N e s w) (hn : n ≤ lim) (hlen : s.out.length ≤ lim) :
    Calls Tryz.prog 30 #[.pointer (some ⟨e, 0, none⟩), .int .i64 (n : Int)] w fun ev w' => ev = .returned (.tuple #[]) ∧ EncF w0 b0 N e s w' := by
  have h' := h
  obtain ⟨bb, hE, hF⟩ := h
  obtain ⟨v, hB, c0, _, _, _, _, _, hfz, hes, hNe, hN⟩ := hE.cells
  rcases hB.form with ⟨rfl, _, h0⟩ | ⟨g, cap, cur, rfl, _, _, hg, hcap, hmax, _, hc⟩
  · by_cases hr : n = 0
    · exact grow_room (len := 0) (cap := 0) h' hn c0 (Nat.le_refl _) (by unfold maxLen; omega) (by omega)
    · exact grow_nil h' hn c0 h0 (by omega) hes (hfz 0)
  · by_cases hr : s.out.length + n ≤ cap
    · exact grow_room h' hn c0 hcap hmax hr
    · have hgl : g < w.heap.size := by
        rcases Nat.lt_or_ge g w.heap.size with h | h
        · exact h
        · rw [Array.getElem?_eq_none h] at hg; cases hg
      exact grow_grows h' hn c0 hcap hlen (by omega) hc hgl hes (hfz 0)

end Go.Proofs.YtokmkkkanphihaaGreatRDoor

/- What the encoder's writers of texts append. -/
namespace Go.Proofs.YtokmkkkanphihaaGreatRDoor
open Go.RowKit

theorem run_append_string_lies {P : Program} (w : World) (base : Nat) (t u ty e : TypeId) (i : TypeInfo) (ht : P.underlying t = some (.slice e)) (hu : P.underlying u = some .string) (hi : P.info? e = some i) (hz : i.zero = some (.int .u8 0))
    (hsize : i.size = 1) (hby : i.bytes = 1) (v : Value) (n : Nat) (xs : List Value) (hown : w.ownsRow base e 1 v n xs) (s : ByteArray)
    (h63 : n + s.size ≤ maxLen) (hbytes : n + s.size ≤ 140737488355328) (hbase : base ≤ w.heap.size) :
    ∃ v' w', (Builtin.append_ #[t, u] ty #[v, .string s]).run P w = .ok v' w' ∧ w'.ownsRow base e 1 v' (n + s.size) (xs ++ Lib.strCells s) ∧ w.grownBy w' v.ownBlock ∧
      (v'.ownBlock = v.ownBlock ∨ v'.ownBlock = some w.heap.size) ∧ ((∃ g c, v' = .slice (some ⟨g, 0, none⟩) (n + s.size) c) ∨ v' = .slice none 0 0) := by
  obtain ⟨v', w', hr, h1, h2, h3⟩ := Lib.run_append_own_string (P := P) w base t u ty e i ht hu hi hz hsize hby v n xs hown s h63 hbytes hbase
  refine ⟨v', w', hr, h1, h2, ?_, ?_⟩
  · have hxl : xs.length = n := by simpa using hown.1
    unfold maxLen at h63
    rcases hown.2 with ⟨rfl, rfl⟩ | ⟨g, cap, cur, rfl, hbg, hg, hnc, hcm, hcs, htake⟩
    · by_cases hm : s.size = 0
      · left; rw [h3.2 ⟨rfl, hm⟩]
      · right
        have hr2 := run_append_nil_string (P := P) w t u ty e i (.int .u8 0) ht hu hi hz s (by omega) (by omega) (by rw [hby]; omega)
        rw [hr] at hr2
        simp only [Result.ok.injEq] at hr2
        rw [hr2.1]; rfl
    · by_cases hroom : n + s.size ≤ cap
      · left
        have hcs' : cur.size = cap := by simpa using hcs
        have hr2 := Lib.run_append_room_string (P := P) w t u ty e i ht hu hi hsize g n cap cur hg s hroom (by omega)
        rw [hr] at hr2
        simp only [Result.ok.injEq] at hr2
        rw [hr2.1]; rfl
      · right
        have holds : ∀ j u, xs[j]? = some u → w.cell? ((⟨g, 0, none⟩ : Addr).add j) = some u := hown.cells (g := g) rfl
        have hr2 := Lib.run_append_grow_string (P := P) w t u ty e i (.int .u8 0) ht hu hi hz ⟨g, 0, none⟩ n cap xs (by rw [hsize]; simpa using hxl) holds s (by omega) (by omega) (by rw [hby]; exact growslice_fits (by omega) (by omega))
        rw [hr] at hr2
        simp only [Result.ok.injEq] at hr2
        rw [hr2.1]; rfl
  · rcases h1.2 with ⟨a, _⟩ | ⟨g, cap, cur, a, _⟩
    · exact .inr a
    · exact .inl ⟨g, cap, a⟩

theorem wpList_append_string_lies {P : Program} {w : World} {ops : Array Oper} {rest : List Oper} {o : Oper} {a : Act} {Q : Exit → Act → World → Prop} (hgd : o.guard = none) (sl x : Operand) (t u : TypeId)
    (ho : o.op = .call { callee := .builtin .append, args := #[sl, x], argTypes := #[t, u] })
    (base : Nat) (e : TypeId) (i : TypeInfo) (ht : P.underlying t = some (.slice e)) (hu : P.underlying u = some .string) (hi : P.info? e = some i) (hz : i.zero = some (.int .u8 0))
    (hsize : i.size = 1) (hby : i.bytes = 1) (v : Value) (n : Nat) (xs : List Value) (hs : a.eval sl = v) (hown : w.ownsRow base e 1 v n xs) (s : ByteArray) (hx : a.eval x = .string s) (hpos : 0 < s.size)
    (h63 : n + s.size ≤ maxLen) (hbytes : n + s.size ≤ 140737488355328) (hbase : base ≤ w.heap.size)
    (h : ∀ g c w', w'.ownsRow base e 1 (.slice (some ⟨g, 0, none⟩) (n + s.size) c) (n + s.size) (xs ++ Lib.strCells s) → w.grownBy w' v.ownBlock → (v.ownBlock = some g ∨ g = w.heap.size) →
      wpList P ops Q rest (a.put o.dst (.slice (some ⟨g, 0, none⟩) (n + s.size) c)) w') : wpList P ops Q (o :: rest) a w := by
  refine wpList_plain hgd fun K hK => ?_
  obtain ⟨v', w', hr, h2, h3, h4, h5⟩ := run_append_string_lies (P := P) w base t u o.type e i ht hu hi hz hsize hby v n xs hown s h63 hbytes hbase
  have hv : ∃ g c, v' = .slice (some ⟨g, 0, none⟩) (n + s.size) c := by
    rcases h5 with h5 | h5
    · exact h5
    · exfalso
      rw [h5] at h2
      rcases h2.2 with ⟨_, hb⟩ | ⟨g, cap, cur, a, _⟩
      · omega
      · cases a
  obtain ⟨g, c, rfl⟩ := hv
  unfold Oper.wp execOp
  simp only [ho, resolve, invoke, builtin, Sem.run_bind, Sem.run_pure, Result.andThen_ok, List.map_toArray, List.map_cons, List.map_nil, hs, hx, hr]
  refine hK _ _ (h g c w' h2 h3 ?_)
  rcases h4 with h4 | h4
  · exact .inl h4.symm
  · simp [Value.ownBlock] at h4; exact .inr h4


/-- The byte of a number. -/
def b8 (x : Int) : UInt8 := UInt8.ofNat x.toNat
theorem b8_toNat (c : UInt8) : b8 (c.toNat : Int) = c := by simp [b8]
theorem b8_val {x : Int} (h0 : 0 ≤ x) (h1 : x < 256) : ((b8 x).toNat : Int) = x := by simp [b8]; omega

set_option maxHeartbeats 800000 in
/-- writeTwoBytes: two bytes more. -/
theorem writeTwoBytes_int {w0 w : World} {b0 : Option Nat} {N e : Nat} {s : St} (x y : Int) (h : EncF w0 b0 N e s w) (hx0 : 0 ≤ x) (hx1 : x < 256) (hy0 : 0 ≤ y) (hy1 : y < 256) (hlen : s.out.length + 2 ≤ lim) :
    Calls Tryz.prog 77 #[.pointer (some ⟨e, 0, none⟩), .int .u8 x, .int .u8 y] w fun ev w' => ev = .returned (.tuple #[]) ∧ EncF w0 b0 N e (s.add [b8 x, b8 y]) w' := by
  obtain ⟨bb, hE, hF⟩ := h
  obtain ⟨v, ⟨hown, hob⟩, c0, _, _, _, _, _, hfz, hes, hNe, hN⟩ := hE.cells
  have f0 := hfz 0
  obtain ⟨i0, hi, hz0, hz1, hz2⟩ := info_parts info_u8
  have hownA : (w.alloc (.cells #[.int .u8 x, .int .u8 y] 5)).ownsRow N 5 1 v s.out.length (bvs s.out) := hown.alloc _
  have hnews : bvs [b8 x, b8 y] = [.int .u8 x, .int .u8 y] := by simp [bvs, bv, b8_val hx0 hx1, b8_val hy0 hy1]
  have hnH := Lib.hid hnews
  have hEH := Lib.hid hE
  have hFH := Lib.hid hF
  have hobH := Lib.hid hob
  clear hE hF hob hfz hnews
  have hlen' : s.out.length + 2 ≤ 1099511627776 := hlen
  clear hlen
  go_enter Tryz.func77, Tryz.ntmps77
  go_wp2_with (at_builtin; refine wpList_append_lies _ rfl (.tmp 10) (.tmp 13) 36 rfl N 5 i0 (.int .u8 0) 1 1 Tryz.underlying36 hi hz0 hz1 hz2 rfl (by omega) v s.out.length (bvs s.out) rfl hownA ⟨w.heap.size, 0, none⟩ 2 2 [.int .u8 x, .int .u8 y] rfl rfl ?c1 ?c2 (by omega) ?c3 ?c4 (by simp; omega) (w.heap.size + 1) (by simp) ?next)
  case c1 => exact World.news_of_block (heap_alloc_new w _)
  case c2 => intro u hu; simp at hu; rcases hu with rfl | rfl <;> rfl
  case c3 => unfold maxLen; omega
  case c4 => omega
  case next =>
    intro g cap w1 hown1 hgrow hat hlt
    have hE := hEH.out
    have hob := hobH.out
    have hne : bb ≠ some e := by obtain ⟨_, _, _, h4, _⟩ := hE; exact h4
    have k0 : w1.cell? ⟨e, 0, none⟩ = some v := by
      rw [World.cell?_of_block (hgrow.block e (by simp; omega) (by rw [hob]; exact Ne.symm hne)), World.cell?_alloc_past _ _ _ hes]; exact c0
    have e0 : w1.frozen? ⟨e, 0, none⟩ = false := by
      rw [World.frozen?_of_block (hgrow.block e (by simp; omega) (by rw [hob]; exact Ne.symm hne)), World.frozen?_alloc_past _ _ _ hes]; exact f0
    have hfin : EncF w0 b0 N e (s.add [b8 x, b8 y]) (w1.setCell ⟨e, 0, none⟩ (.slice (some ⟨g, 0, none⟩) (s.out.length + 2) cap)) := by
      refine EncF.put hE hFH.out ⟨w.alloc (.cells #[.int .u8 x, .int .u8 y] 5), fun k hk => heap_alloc_old w _ k hk, by simp, rfl, rfl, rfl, hob ▸ hgrow⟩ ?_ ?_
      · rw [bvs_append, hnH.out]; simpa using hown1
      · rcases hat with hx | hx
        · left; rw [← hob, hx]; rfl
        · right; exact ⟨g, by omega, rfl⟩
    have hfinH := Lib.hid hfin
    clear hfin hown1 hgrow hat hEH hFH hobH hE hob hownA hown
    go_wp2
    go_end0
    exact ⟨rfl, hfinH.out⟩

set_option maxHeartbeats 800000 in
/-- writeString: a text more. -/
theorem writeString_any {w0 w : World} {b0 : Option Nat} {N e : Nat} {s : St} (t : ByteArray) (h : EncF w0 b0 N e s w) (hpos : 0 < t.size) (hlen : s.out.length + t.size ≤ lim) :
    Calls Tryz.prog 70 #[.pointer (some ⟨e, 0, none⟩), .string t] w fun ev w' => ev = .returned (.tuple #[]) ∧ EncF w0 b0 N e (s.add t.data.toList) w' := by
  obtain ⟨bb, hE, hF⟩ := h
  obtain ⟨v, ⟨hown, hob⟩, c0, _, _, _, _, _, hfz, hes, hNe, hN⟩ := hE.cells
  have f0 := hfz 0
  obtain ⟨i0, hi, hz0, hz1, hz2⟩ := info_parts info_u8
  have hEH := Lib.hid hE
  have hFH := Lib.hid hF
  have hobH := Lib.hid hob
  clear hE hF hob hfz
  have hlen' : s.out.length + t.size ≤ 1099511627776 := hlen
  clear hlen
  go_enter Tryz.func70, Tryz.ntmps70
  go_wp2_with (at_builtin; refine wpList_append_string_lies rfl (.tmp 8) (.tmp 9) 36 9 rfl N 5 i0 Tryz.underlying36 Tryz.underlying9 hi hz0 hz1 hz2 v s.out.length (bvs s.out) rfl hown t rfl hpos ?c3 ?c4 hN ?next)
  case c3 => unfold maxLen; omega
  case c4 => omega
  case next =>
    intro g cap w1 hown1 hgrow hat
    have hE := hEH.out
    have hob := hobH.out
    have hne : bb ≠ some e := by obtain ⟨_, _, _, h4, _⟩ := hE; exact h4
    have k0 : w1.cell? ⟨e, 0, none⟩ = some v := by
      rw [World.cell?_of_block (hgrow.block e (by omega) (by rw [hob]; exact Ne.symm hne))]; exact c0
    have e0 : w1.frozen? ⟨e, 0, none⟩ = false := by
      rw [World.frozen?_of_block (hgrow.block e (by omega) (by rw [hob]; exact Ne.symm hne))]; exact f0
    have hfin : EncF w0 b0 N e (s.add t.data.toList) (w1.setCell ⟨e, 0, none⟩ (.slice (some ⟨g, 0, none⟩) (s.out.length + t.size) cap)) := by
      have hsz : t.data.toList.length = t.size := by simp
      refine EncF.put hE hFH.out ⟨w, fun k _ => rfl, Nat.le_refl _, rfl, rfl, rfl, hob ▸ hgrow⟩ ?_ ?_
      · rw [bvs_append, List.length_append, hsz]; exact hown1
      · rcases hat with hx | hx
        · left; rw [← hob, hx]; rfl
        · right; exact ⟨g, by omega, rfl⟩
    have hfinH := Lib.hid hfin
    clear hfin hown1 hgrow hat hEH hFH hobH hE hob hown
    go_wp2
    go_end0
    exact ⟨rfl, hfinH.out⟩

end Go.Proofs.YtokmkkkanphihaaGreatRDoor

/- How the encoder escapes a text. -/
namespace Go.Proofs.YtokmkkkanphihaaGreatRDoor
open Go.RowKit

/-- Half a byte as a hexadecimal digit. -/
def hexD (n : Nat) : UInt8 := if n < 10 then UInt8.ofNat (48 + n) else UInt8.ofNat (87 + n)

/-- What stands for a byte of a text. -/
def escB (c : UInt8) : List UInt8 :=
  if 32 ≤ c.toNat ∧ c.toNat ≠ 92 ∧ c.toNat ≠ 34 then [c]
  else if c.toNat = 92 ∨ c.toNat = 34 then [92, c]
  else if c.toNat = 10 then [92, 110]
  else if c.toNat = 12 then [92, 102]
  else if c.toNat = 8 then [92, 98]
  else if c.toNat = 13 then [92, 114]
  else if c.toNat = 9 then [92, 116]
  else [92, 117, 48, 48, hexD (c.toNat / 16), hexD (c.toNat % 16)]

def esc (l : List UInt8) : List UInt8 := l.flatMap escB

theorem escB_len (c : UInt8) : (escB c).length ≤ 6 ∧ 1 ≤ (escB c).length := by
  unfold escB
  repeat' split
  all_goals simp
theorem esc_len (l : List UInt8) : (esc l).length ≤ 6 * l.length := by
  induction l with
  | nil => simp [esc]
  | cons c l ih =>
    have := (escB_len c).1
    simp only [esc, List.flatMap_cons, List.length_append, List.length_cons] at *
    omega
theorem esc_snoc (l : List UInt8) (c : UInt8) : esc (l ++ [c]) = esc l ++ escB c := by simp [esc]

theorem take_snoc (s : ByteArray) (k : Nat) (h : k < s.size) : s.data.toList.take (k + 1) = s.data.toList.take k ++ [s[k]] := by
  rw [List.take_succ_eq_append_getElem (by simpa using h)]; rfl

theorem and15 (x : Nat) (h : x < 256) : bits BinOp.and IntKind.u8 (x : Int) 15 = ((x % 16 : Nat) : Int) := by
  have : ∀ y : Fin 256, bits BinOp.and IntKind.u8 (y.val : Int) 15 = ((y.val % 16 : Nat) : Int) := by decide +kernel
  exact this ⟨x, h⟩

theorem writeTwoBytes_u8 {w0 w : World} {b0 : Option Nat} {N e : Nat} {s : St} (b c : UInt8) (h : EncF w0 b0 N e s w) (hlen : s.out.length + 2 ≤ lim) :
    Calls Tryz.prog 77 #[.pointer (some ⟨e, 0, none⟩), .int .u8 (b.toNat : Int), .int .u8 (c.toNat : Int)] w fun ev w' => ev = .returned (.tuple #[]) ∧ EncF w0 b0 N e (s.add [b, c]) w' := by
  have hb := b.toNat_lt
  have hc := c.toNat_lt
  have := writeTwoBytes_int (b.toNat : Int) (c.toNat : Int) h (by omega) (by omega) (by omega) (by omega) hlen
  simpa only [b8_toNat] using this

def hexS : ByteArray := ⟨#[48, 49, 50, 51, 52, 53, 54, 55, 56, 57, 97, 98, 99, 100, 101, 102]⟩
theorem hex_at (n : Nat) (h : n < 16) : hexS[n]'h = hexD n := by
  have : ∀ y : Fin 16, hexS[y.val]'y.isLt = hexD y.val := by decide +kernel
  exact this ⟨n, h⟩

set_option maxHeartbeats 4000000 in
set_option maxRecDepth 100000 in
theorem writeStringEscape_any {w0 w : World} {b0 : Option Nat} {N e : Nat} {s : St} (t : ByteArray) (h : EncF w0 b0 N e s w) (hlen : s.out.length + 6 * t.size ≤ lim) :
    Calls Tryz.prog 69 #[.pointer (some ⟨e, 0, none⟩), .string t] w fun ev w' => ev = .returned (.tuple #[]) ∧ EncF w0 b0 N e (s.add (esc t.data.toList)) w' := by
  have hlen' : s.out.length + 6 * t.size ≤ 1099511627776 := hlen
  have hH := Lib.hid h
  clear h hlen
  go_enter Tryz.func69, Tryz.ntmps69
  go_wp2
  go_loopw [5] (fun i wr => ∃ k : Nat, k ≤ t.size ∧ i = .int .i64 k ∧ EncF w0 b0 N e (s.add (esc (t.data.toList.take k))) wr) (fun i _ => t.size - (intOf i).toNat)
  case atStart => exact ⟨0, Nat.zero_le _, rfl, by simpa [esc, St.add_nil] using hH.out⟩
  case round =>
    obtain ⟨k, hk, rfl, hE⟩ := hrel
    have hEH := Lib.hid hE
    clear hE
    by_cases hlt : k < t.size
    · have hel : (esc (t.data.toList.take k)).length ≤ 6 * k := by
        have := esc_len (t.data.toList.take k)
        rw [List.length_take] at this
        omega
      have hr6 : (s.add (esc (t.data.toList.take k))).out.length + 6 ≤ lim := by
        show _ ≤ 1099511627776
        rw [St.add_out, List.length_append]; omega
      have hr1 : (s.add (esc (t.data.toList.take k))).out.length + 1 ≤ lim := Nat.le_trans (by omega) hr6
      have hr4 : (s.add (esc (t.data.toList.take k))).out.length + 4 ≤ lim := Nat.le_trans (by omega) hr6
      have hr7 : ((s.add (esc (t.data.toList.take k))).add [92, 117, 48, 48]).out.length + 2 ≤ lim := by
        rw [St.add_out, List.length_append]; exact hr6
      have hr2 : (s.add (esc (t.data.toList.take k))).out.length + 2 ≤ lim := Nat.le_trans (by omega) hr6
      have hb := (t[k]'hlt).toNat_lt
      by_cases p1 : 32 ≤ (t[k]'hlt).toNat ∧ (t[k]'hlt).toNat ≠ 92 ∧ (t[k]'hlt).toNat ≠ 34
      · have hesc : escB (t[k]'hlt) = [t[k]'hlt] := by unfold escB; rw [if_pos p1]
        obtain ⟨p2, p3, p4⟩ := p1
        have q3 : ((((t[k]'hlt).toNat : Nat) : Int) != 92) = true := by rw [bne_iff_ne]; omega
        have q4 : ((((t[k]'hlt).toNat : Nat) : Int) != 34) = true := by rw [bne_iff_ne]; omega
        have hescH := Lib.hid hesc
        clear hesc p3 p4
        go_wp2_with (first | (go_at_call 31; refine (writeByte_any (t[k]'hlt) hEH.out hr1).mono ?_; rintro ev w1 ⟨rfl, hE1⟩; have hE1H := Lib.hid hE1; clear hE1) | (go_at_call 77; refine (writeTwoBytes_int _ _ hEH.out (by omega) (by omega) (by omega) (by omega) hr2).mono ?_; rintro ev w1 ⟨rfl, hE1⟩; have hE1H := Lib.hid hE1; clear hE1))
        go_roundw
        case rel =>
          refine ⟨k + 1, by omega, by go_num, ?_⟩
          have hE1 := hE1H.out
          rw [take_snoc t k hlt, esc_snoc, ← St.add_add, hescH.out]
          exact hE1
        case measure => simp [intOf]; omega
      · by_cases p92 : (t[k]'hlt).toNat = 92
        · have hc8 : t[k]'hlt = 92 := UInt8.toNat_inj.1 (by rw [p92]; rfl)
          have hesc : escB (t[k]'hlt) = [92, 92] := by rw [hc8]; rfl
          have hx : ((((t[k]'hlt).toNat : Nat) : Int)) = 92 := by omega
          have hescH := Lib.hid hesc
          clear hesc p92 hc8 hb
          go_wp2_with (first | (go_at_call 31; refine (writeByte_any (t[k]'hlt) hEH.out hr1).mono ?_; rintro ev w1 ⟨rfl, hE1⟩; have hE1H := Lib.hid hE1; clear hE1) | (go_at_call 77; refine (writeTwoBytes_int _ _ hEH.out (by omega) (by omega) (by omega) (by omega) hr2).mono ?_; rintro ev w1 ⟨rfl, hE1⟩; have hE1H := Lib.hid hE1; clear hE1))
          go_roundw
          case rel =>
            refine ⟨k + 1, by omega, by go_num, ?_⟩
            have hE1 := hE1H.out
            rw [take_snoc t k hlt, esc_snoc, ← St.add_add, hescH.out]
            exact hE1
          case measure => simp [intOf]; omega
        · by_cases p34 : (t[k]'hlt).toNat = 34
          · have hc8 : t[k]'hlt = 34 := UInt8.toNat_inj.1 (by rw [p34]; rfl)
            have hesc : escB (t[k]'hlt) = [92, 34] := by rw [hc8]; rfl
            have hx : ((((t[k]'hlt).toNat : Nat) : Int)) = 34 := by omega
            have hescH := Lib.hid hesc
            clear hesc p34 hc8 hb
            go_wp2_with (first | (go_at_call 31; refine (writeByte_any (t[k]'hlt) hEH.out hr1).mono ?_; rintro ev w1 ⟨rfl, hE1⟩; have hE1H := Lib.hid hE1; clear hE1) | (go_at_call 77; refine (writeTwoBytes_int _ _ hEH.out (by omega) (by omega) (by omega) (by omega) hr2).mono ?_; rintro ev w1 ⟨rfl, hE1⟩; have hE1H := Lib.hid hE1; clear hE1))
            go_roundw
            case rel =>
              refine ⟨k + 1, by omega, by go_num, ?_⟩
              have hE1 := hE1H.out
              rw [take_snoc t k hlt, esc_snoc, ← St.add_add, hescH.out]
              exact hE1
            case measure => simp [intOf]; omega
          · by_cases p10 : (t[k]'hlt).toNat = 10
            · have hc8 : t[k]'hlt = 10 := UInt8.toNat_inj.1 (by rw [p10]; rfl)
              have hesc : escB (t[k]'hlt) = [92, 110] := by rw [hc8]; rfl
              have hx : ((((t[k]'hlt).toNat : Nat) : Int)) = 10 := by omega
              have hescH := Lib.hid hesc
              clear hesc p10 hc8 hb
              go_wp2_with (first | (go_at_call 31; refine (writeByte_any (t[k]'hlt) hEH.out hr1).mono ?_; rintro ev w1 ⟨rfl, hE1⟩; have hE1H := Lib.hid hE1; clear hE1) | (go_at_call 77; refine (writeTwoBytes_int _ _ hEH.out (by omega) (by omega) (by omega) (by omega) hr2).mono ?_; rintro ev w1 ⟨rfl, hE1⟩; have hE1H := Lib.hid hE1; clear hE1))
              go_roundw
              case rel =>
                refine ⟨k + 1, by omega, by go_num, ?_⟩
                have hE1 := hE1H.out
                rw [take_snoc t k hlt, esc_snoc, ← St.add_add, hescH.out]
                exact hE1
              case measure => simp [intOf]; omega
            · by_cases p12 : (t[k]'hlt).toNat = 12
              · have hc8 : t[k]'hlt = 12 := UInt8.toNat_inj.1 (by rw [p12]; rfl)
                have hesc : escB (t[k]'hlt) = [92, 102] := by rw [hc8]; rfl
                have hx : ((((t[k]'hlt).toNat : Nat) : Int)) = 12 := by omega
                have hescH := Lib.hid hesc
                clear hesc p12 hc8 hb
                go_wp2_with (first | (go_at_call 31; refine (writeByte_any (t[k]'hlt) hEH.out hr1).mono ?_; rintro ev w1 ⟨rfl, hE1⟩; have hE1H := Lib.hid hE1; clear hE1) | (go_at_call 77; refine (writeTwoBytes_int _ _ hEH.out (by omega) (by omega) (by omega) (by omega) hr2).mono ?_; rintro ev w1 ⟨rfl, hE1⟩; have hE1H := Lib.hid hE1; clear hE1))
                go_roundw
                case rel =>
                  refine ⟨k + 1, by omega, by go_num, ?_⟩
                  have hE1 := hE1H.out
                  rw [take_snoc t k hlt, esc_snoc, ← St.add_add, hescH.out]
                  exact hE1
                case measure => simp [intOf]; omega
              · by_cases p8 : (t[k]'hlt).toNat = 8
                · have hc8 : t[k]'hlt = 8 := UInt8.toNat_inj.1 (by rw [p8]; rfl)
                  have hesc : escB (t[k]'hlt) = [92, 98] := by rw [hc8]; rfl
                  have hx : ((((t[k]'hlt).toNat : Nat) : Int)) = 8 := by omega
                  have hescH := Lib.hid hesc
                  clear hesc p8 hc8 hb
                  go_wp2_with (first | (go_at_call 31; refine (writeByte_any (t[k]'hlt) hEH.out hr1).mono ?_; rintro ev w1 ⟨rfl, hE1⟩; have hE1H := Lib.hid hE1; clear hE1) | (go_at_call 77; refine (writeTwoBytes_int _ _ hEH.out (by omega) (by omega) (by omega) (by omega) hr2).mono ?_; rintro ev w1 ⟨rfl, hE1⟩; have hE1H := Lib.hid hE1; clear hE1))
                  go_roundw
                  case rel =>
                    refine ⟨k + 1, by omega, by go_num, ?_⟩
                    have hE1 := hE1H.out
                    rw [take_snoc t k hlt, esc_snoc, ← St.add_add, hescH.out]
                    exact hE1
                  case measure => simp [intOf]; omega
                · by_cases p13 : (t[k]'hlt).toNat = 13
                  · have hc8 : t[k]'hlt = 13 := UInt8.toNat_inj.1 (by rw [p13]; rfl)
                    have hesc : escB (t[k]'hlt) = [92, 114] := by rw [hc8]; rfl
                    have hx : ((((t[k]'hlt).toNat : Nat) : Int)) = 13 := by omega
                    have hescH := Lib.hid hesc
                    clear hesc p13 hc8 hb
                    go_wp2_with (first | (go_at_call 31; refine (writeByte_any (t[k]'hlt) hEH.out hr1).mono ?_; rintro ev w1 ⟨rfl, hE1⟩; have hE1H := Lib.hid hE1; clear hE1) | (go_at_call 77; refine (writeTwoBytes_int _ _ hEH.out (by omega) (by omega) (by omega) (by omega) hr2).mono ?_; rintro ev w1 ⟨rfl, hE1⟩; have hE1H := Lib.hid hE1; clear hE1))
                    go_roundw
                    case rel =>
                      refine ⟨k + 1, by omega, by go_num, ?_⟩
                      have hE1 := hE1H.out
                      rw [take_snoc t k hlt, esc_snoc, ← St.add_add, hescH.out]
                      exact hE1
                    case measure => simp [intOf]; omega
                  · by_cases p9 : (t[k]'hlt).toNat = 9
                    · have hc8 : t[k]'hlt = 9 := UInt8.toNat_inj.1 (by rw [p9]; rfl)
                      have hesc : escB (t[k]'hlt) = [92, 116] := by rw [hc8]; rfl
                      have hx : ((((t[k]'hlt).toNat : Nat) : Int)) = 9 := by omega
                      have hescH := Lib.hid hesc
                      clear hesc p9 hc8 hb
                      go_wp2_with (first | (go_at_call 31; refine (writeByte_any (t[k]'hlt) hEH.out hr1).mono ?_; rintro ev w1 ⟨rfl, hE1⟩; have hE1H := Lib.hid hE1; clear hE1) | (go_at_call 77; refine (writeTwoBytes_int _ _ hEH.out (by omega) (by omega) (by omega) (by omega) hr2).mono ?_; rintro ev w1 ⟨rfl, hE1⟩; have hE1H := Lib.hid hE1; clear hE1))
                      go_roundw
                      case rel =>
                        refine ⟨k + 1, by omega, by go_num, ?_⟩
                        have hE1 := hE1H.out
                        rw [take_snoc t k hlt, esc_snoc, ← St.add_add, hescH.out]
                        exact hE1
                      case measure => simp [intOf]; omega
                    · have hlt32 : (t[k]'hlt).toNat < 32 := by omega
                      have hesc : escB (t[k]'hlt) = [92, 117, 48, 48] ++ [hexD ((t[k]'hlt).toNat / 16), hexD ((t[k]'hlt).toNat % 16)] := by
                        unfold escB
                        rw [if_neg p1, if_neg (by omega), if_neg p10, if_neg p12, if_neg p8, if_neg p13, if_neg p9]
                        rfl
                      have q0 : decide (32 ≤ (((t[k]'hlt).toNat : Nat) : Int)) = false := by simp; omega
                      have q1 : ((((t[k]'hlt).toNat : Nat) : Int) == 92) = false := by rw [beq_eq_false_iff_ne]; omega
                      have q2 : ((((t[k]'hlt).toNat : Nat) : Int) == 34) = false := by rw [beq_eq_false_iff_ne]; omega
                      have q3 : ((((t[k]'hlt).toNat : Nat) : Int) == 10) = false := by rw [beq_eq_false_iff_ne]; omega
                      have q4 : ((((t[k]'hlt).toNat : Nat) : Int) == 12) = false := by rw [beq_eq_false_iff_ne]; omega
                      have q5 : ((((t[k]'hlt).toNat : Nat) : Int) == 8) = false := by rw [beq_eq_false_iff_ne]; omega
                      have q6 : ((((t[k]'hlt).toNat : Nat) : Int) == 13) = false := by rw [beq_eq_false_iff_ne]; omega
                      have q7 : ((((t[k]'hlt).toNat : Nat) : Int) == 9) = false := by rw [beq_eq_false_iff_ne]; omega
                      have hand : bits BinOp.and IntKind.u8 (((t[k]'hlt).toNat : Nat) : Int) 15 = (((t[k]'hlt).toNat % 16 : Nat) : Int) := and15 _ (by omega)
                      have h16a : (0 : Int) ≤ (((t[k]'hlt).toNat : Nat) : Int) / 16 := by omega
                      have h16b : (((t[k]'hlt).toNat : Nat) : Int) / 16 < 16 := by omega
                      have h16c : ((((t[k]'hlt).toNat : Nat) : Int) / 16).toNat = (t[k]'hlt).toNat / 16 := by omega
                      have h16d : (0 : Int) ≤ (((t[k]'hlt).toNat : Nat) : Int) % 16 := by omega
                      have h16e : (((t[k]'hlt).toNat : Nat) : Int) % 16 < 16 := by omega
                      have h16f : ((((t[k]'hlt).toNat : Nat) : Int) % 16).toNat = (t[k]'hlt).toNat % 16 := by omega
                      have hm16 : (t[k]'hlt).toNat % 16 < 16 := Nat.mod_lt _ (by omega)
                      have hd16 : (t[k]'hlt).toNat / 16 < 16 := by omega
                      have hescH := Lib.hid hesc
                      clear hesc p1 p92 p34 p10 p12 p8 p13 p9 hb
                      go_wp2_with (first | (go_at_call 70; refine (writeString_any ⟨#[92, 117, 48, 48]⟩ hEH.out (by decide) hr4).mono ?_; rintro ev w1 ⟨rfl, hE1⟩; have hE1H := Lib.hid hE1; clear hE1))
                      go_still_tail 7, (by kernel_rfl)
                      go_wp2_with fail
                      refine (writeTwoBytes_u8 (hexS[(t[k]'hlt).toNat / 16]'hd16) (hexS[(t[k]'hlt).toNat % 16]'hm16) hE1H.out.drew hr7).mono ?_
                      rintro ev w2 ⟨rfl, hE2⟩
                      have hE2H := Lib.hid hE2
                      clear hE2
                      go_wp2
                      go_roundw
                      case rel =>
                        refine ⟨k + 1, by omega, by go_num, ?_⟩
                        have hE2 := hE2H.out
                        rw [take_snoc t k hlt, esc_snoc, ← St.add_add, hescH.out, ← St.add_add, ← hex_at _ hd16, ← hex_at _ hm16]
                        exact hE2
                      case measure => simp [intOf]; omega
    · have hk' : k = t.size := by omega
      go_wp2
      go_end0
      refine ⟨rfl, ?_⟩
      have hE := hEH.out
      rw [hk', List.take_of_length_le (by simp)] at hE
      exact hE
end Go.Proofs.YtokmkkkanphihaaGreatRDoor
