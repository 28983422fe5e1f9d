/- What an encoder's memory looks like, and what each of its small writers appends. The encoder's block and the row of bytes that it owns are the only memory that a writer turns. -/
import Derived.Test.YtokmkkkanphihaaGreatRDoorProg
import Derived.WalkKit
import Derived.ProofKit
import Derived.Handy
import Derived.Outline
import Derived.Deep.QuietTactic
import Derived.BigQuiet
import Derived.StillTailTactics
import Derived.WalkSpells
import Derived.WalkLawsBesides
import Derived.Deep.AppendLies
import Derived.Deep.LoopGhost
import Derived.Deep.CutRange
import Derived.Lib.AppendStr
import Derived.Lib.Hide
namespace Go.Proofs.YtokmkkkanphihaaGreatRDoor
open Go.RowKit

/-- A byte as a cell. -/
def bv (b : UInt8) : Value := .int .u8 (b.toNat : Int)
def bvs (l : List UInt8) : List Value := l.map bv
@[simp] theorem bvs_length (l : List UInt8) : (bvs l).length = l.length := by simp [bvs]
theorem bvs_append (a b : List UInt8) : bvs (a ++ b) = bvs a ++ bvs b := by simp [bvs]
theorem bvs_nil : bvs [] = [] := rfl

/-- A slice of bytes that is owned from block N on, and its block. -/
def Buf (w : World) (N : Nat) (v : Value) (bb : Option Nat) (out : List UInt8) : Prop :=
  w.ownsRow N 5 1 v out.length (bvs out) ∧ v.ownBlock = bb

/-- The state of an encoder: what is written, its keys, its writer. -/
structure St where
  out : List UInt8
  hk : Bool
  ks : Value
  wr : Value

def St.add (s : St) (l : List UInt8) : St := { s with out := s.out ++ l }
@[simp] theorem St.add_out (s : St) (l : List UInt8) : (s.add l).out = s.out ++ l := rfl
@[simp] theorem St.add_hk (s : St) (l : List UInt8) : (s.add l).hk = s.hk := rfl
@[simp] theorem St.add_ks (s : St) (l : List UInt8) : (s.add l).ks = s.ks := rfl
@[simp] theorem St.add_wr (s : St) (l : List UInt8) : (s.add l).wr = s.wr := rfl
theorem St.add_add (s : St) (l m : List UInt8) : (s.add l).add m = s.add (l ++ m) := by simp [St.add]
theorem St.add_nil (s : St) : s.add [] = s := by simp [St.add]

def encCells (v : Value) (s : St) : Array Value := #[v, .int .u8 0, s.wr, .nilIface, .bool s.hk, s.ks]

/-- The encoder at block e: its cells, and the row of bytes. -/
def Enc (w : World) (N e : Nat) (bb : Option Nat) (s : St) : Prop :=
  ∃ v, w.heap[e]? = some (.cells (encCells v s) 70 (0, 0)) ∧ Buf w N v bb s.out ∧ bb ≠ some e ∧ N ≤ e

/-- From w to w' nothing has turned but block e and the row bb; the row is bb' now: the same, or new. -/
structure Fr (e : Nat) (bb : Option Nat) (w w' : World) (bb' : Option Nat) : Prop where
  os : w'.os = w.os
  tape : w'.tape = w.tape
  output : w'.output = w.output
  size : w.heap.size ≤ w'.heap.size
  block : ∀ k, k < w.heap.size → k ≠ e → some k ≠ bb → w'.heap[k]? = w.heap[k]?
  own : bb' = bb ∨ ∃ g, w.heap.size ≤ g ∧ bb' = some g

theorem Fr.refl (e : Nat) (bb : Option Nat) (w : World) : Fr e bb w w bb := ⟨rfl, rfl, rfl, Nat.le_refl _, fun _ _ _ _ => rfl, .inl rfl⟩

theorem Fr.trans {e : Nat} {b0 b1 b2 : Option Nat} {w0 w1 w2 : World} (h : Fr e b0 w0 w1 b1) (k : Fr e b1 w1 w2 b2) : Fr e b0 w0 w2 b2 := by
  refine ⟨k.os.trans h.os, k.tape.trans h.tape, k.output.trans h.output, Nat.le_trans h.size k.size, fun i hi he hb => ?_, ?_⟩
  · refine (k.block i (Nat.lt_of_lt_of_le hi h.size) he ?_).trans (h.block i hi he hb)
    rcases h.own with h1 | ⟨g, hg, h1⟩
    · rw [h1]; exact hb
    · rw [h1]; intro hx; cases hx; omega
  · rcases k.own with k1 | ⟨g, hg, k1⟩
    · rw [k1]; exact h.own
    · exact .inr ⟨g, Nat.le_trans h.size hg, k1⟩

/-- The encoder in w, all else as it was in w0. -/
def EncF (w0 : World) (b0 : Option Nat) (N e : Nat) (s : St) (w : World) : Prop :=
  ∃ bb, Enc w N e bb s ∧ Fr e b0 w0 w bb

theorem EncF.refl {w : World} {N e : Nat} {bb : Option Nat} {s : St} (h : Enc w N e bb s) : EncF w bb N e s w := ⟨bb, h, Fr.refl e bb w⟩

theorem EncF.trans {w0 w1 w2 : World} {b0 b1 : Option Nat} {N e : Nat} {s : St} (h : Fr e b0 w0 w1 b1) (k : EncF w1 b1 N e s w2) : EncF w0 b0 N e s w2 := by
  obtain ⟨b2, k1, k2⟩ := k
  exact ⟨b2, k1, h.trans k2⟩

/-- A step that turns neither the encoder's block nor its row. -/
theorem Enc.step {w w' : World} {N e : Nat} {bb : Option Nat} {s : St} (h : Enc w N e bb s) (hb : ∀ k, k < w.heap.size → w'.heap[k]? = w.heap[k]?) (_hs : w.heap.size ≤ w'.heap.size) : Enc w' N e bb s := by
  obtain ⟨v, h1, ⟨h2, h3⟩, h4, h5⟩ := h
  have he : e < w.heap.size := by
    rcases Nat.lt_or_ge e w.heap.size with h | h
    · exact h
    · rw [Array.getElem?_eq_none h] at h1; cases h1
  refine ⟨v, (hb e he).trans h1, ⟨?_, h3⟩, h4, h5⟩
  obtain ⟨a1, a2⟩ := h2
  refine ⟨a1, ?_⟩
  rcases a2 with a2 | ⟨g, cap, cur, b1, b2, b3, b4⟩
  · exact .inl a2
  · refine .inr ⟨g, cap, cur, b1, b2, ?_, b4⟩
    have hg : g < w.heap.size := by
      rcases Nat.lt_or_ge g w.heap.size with h | h
      · exact h
      · rw [Array.getElem?_eq_none h] at b3; cases b3
    exact (hb g hg).trans b3

theorem heap_alloc_old (w : World) (o : Obj) (k : Nat) (h : k < w.heap.size) : (w.alloc o).heap[k]? = w.heap[k]? := Below.heap_alloc w o k h

theorem EncF.alloc {w0 w : World} {b0 : Option Nat} {N e : Nat} {s : St} (h : EncF w0 b0 N e s w) (o : Obj) : EncF w0 b0 N e s (w.alloc o) := by
  obtain ⟨bb, h1, h2⟩ := h
  refine ⟨bb, h1.step (fun k hk => heap_alloc_old w o k hk) (by simp), h2.trans ⟨rfl, rfl, rfl, by simp, fun k hk _ _ => heap_alloc_old w o k hk, .inl rfl⟩⟩

theorem EncF.drew {w0 w : World} {b0 : Option Nat} {N e : Nat} {s : St} (h : EncF w0 b0 N e s w) : EncF w0 b0 N e s w.drew := by
  obtain ⟨bb, h1, h2⟩ := h
  exact ⟨bb, h1.step (fun _ _ => rfl) (Nat.le_refl _), h2.trans ⟨rfl, rfl, rfl, Nat.le_refl _, fun _ _ _ _ => rfl, .inl rfl⟩⟩

theorem EncF.drewN {w0 w : World} {b0 : Option Nat} {N e : Nat} {s : St} (h : EncF w0 b0 N e s w) (n : Nat) : EncF w0 b0 N e s (w.drewN n) := by
  obtain ⟨bb, h1, h2⟩ := h
  exact ⟨bb, h1.step (fun _ _ => rfl) (Nat.le_refl _), h2.trans ⟨rfl, rfl, rfl, Nat.le_refl _, fun _ _ _ _ => rfl, .inl rfl⟩⟩

/-- The cells of the encoder's block, for the walk. -/
theorem Enc.cells {w : World} {N e : Nat} {bb : Option Nat} {s : St} (h : Enc w N e bb s) :
    ∃ v, Buf w N v bb s.out ∧ w.cell? ⟨e, 0, none⟩ = some v ∧ w.cell? ⟨e, 1, none⟩ = some (.int .u8 0) ∧ w.cell? ⟨e, 2, none⟩ = some s.wr ∧ w.cell? ⟨e, 3, none⟩ = some .nilIface ∧
      w.cell? ⟨e, 4, none⟩ = some (.bool s.hk) ∧ w.cell? ⟨e, 5, none⟩ = some s.ks ∧ (∀ i, w.frozen? ⟨e, i, none⟩ = false) ∧ e < w.heap.size ∧ N ≤ e ∧ N ≤ w.heap.size := by
  obtain ⟨v, h1, h2, _, h5⟩ := h
  have he : e < w.heap.size := by
    rcases Nat.lt_or_ge e w.heap.size with h | h
    · exact h
    · rw [Array.getElem?_eq_none h] at h1; cases h1
  have hc : ∀ k, w.cell? ⟨e, k, none⟩ = (encCells v s)[k]? := fun k => by simp [World.cell?, h1]
  refine ⟨v, h2, (hc 0).trans rfl, (hc 1).trans rfl, (hc 2).trans rfl, (hc 3).trans rfl, (hc 4).trans rfl, (hc 5).trans rfl, fun i => by simp [World.frozen?, h1], he, h5, by omega⟩

/-- BEHIND AN append: the new row is stored into the encoder. -/
theorem EncF.put {w0 w w1 : World} {b0 bb : Option Nat} {N e : Nat} {s : St} {new : List UInt8} {v' : Value} (h : Enc w N e bb s) (hF : Fr e b0 w0 w bb)
    (hgrow : ∃ wa : World, (∀ k, k < w.heap.size → wa.heap[k]? = w.heap[k]?) ∧ w.heap.size ≤ wa.heap.size ∧ wa.os = w.os ∧ wa.tape = w.tape ∧ wa.output = w.output ∧ wa.grownBy w1 bb)
    (hown : w1.ownsRow N 5 1 v' (s.out ++ new).length (bvs (s.out ++ new)))
    (hblk : v'.ownBlock = bb ∨ ∃ g, w.heap.size ≤ g ∧ v'.ownBlock = some g) :
    EncF w0 b0 N e (s.add new) (w1.setCell ⟨e, 0, none⟩ v') := by
  obtain ⟨v, h1, h2, h4, h5⟩ := h
  obtain ⟨wa, ha, has, hos, htp, hou, hg⟩ := hgrow
  have he : e < w.heap.size := by
    rcases Nat.lt_or_ge e w.heap.size with h | h
    · exact h
    · rw [Array.getElem?_eq_none h] at h1; cases h1
  have he1 : w1.heap[e]? = some (.cells (encCells v s) 70 (0, 0)) :=
    ((hg.block e (by omega) (Ne.symm h4)).trans (ha e he)).trans h1
  have hne : v'.ownBlock ≠ some e := by
    rcases hblk with hb | ⟨g, hg', hb⟩
    · rw [hb]; exact h4
    · rw [hb]; intro hx; cases hx; omega
  have hset : (w1.setCell ⟨e, 0, none⟩ v').heap[e]? = some (.cells (encCells v' s) 70 (0, 0)) := by
    simp [World.setCell, Array.getElem?_modify, he1, encCells]
  have hother : ∀ k, k ≠ e → (w1.setCell ⟨e, 0, none⟩ v').heap[k]? = w1.heap[k]? := fun k hk => Below.heap_setCell w1 ⟨e, 0, none⟩ v' k hk
  have hsz : (w1.setCell ⟨e, 0, none⟩ v').heap.size = w1.heap.size := by simp [World.setCell]
  refine ⟨v'.ownBlock, ⟨v', hset, ⟨?_, rfl⟩, hne, h5⟩, hF.trans ⟨?_, ?_, ?_, ?_, ?_, hblk⟩⟩
  · obtain ⟨a1, a2⟩ := hown
    refine ⟨a1, ?_⟩
    rcases a2 with a2 | ⟨g, cap, cur, b1, b2, b3, b4⟩
    · exact .inl a2
    · refine .inr ⟨g, cap, cur, b1, b2, ?_, b4⟩
      rw [hother g]
      · exact b3
      · intro hx; apply hne; rw [b1, hx]; rfl
  · exact hg.os.trans hos
  · exact hg.tape.trans htp
  · exact hg.output.trans hou
  · rw [hsz]; exact Nat.le_trans has hg.size
  · intro k hk hke hkb
    rw [hother k hke, hg.block k (by omega) hkb, ha k hk]

theorem info_u8 : (Tryz.prog.info? 5).map (fun i => (i.zero, i.size, i.bytes)) = some (some (.int .u8 0), 1, 1) := by kernel_rfl

/-- The largest text that is spoken of. -/
abbrev lim : Nat := 1099511627776

set_option maxHeartbeats 800000 in
/-- writeByte: one byte more. -/
theorem writeByte_any {w0 w : World} {b0 : Option Nat} {N e : Nat} {s : St} (c : UInt8) (h : EncF w0 b0 N e s w) (hlen : s.out.length + 1 ≤ lim) :
    Calls Tryz.prog 31 #[.pointer (some ⟨e, 0, none⟩), .int .u8 (c.toNat : Int)] w fun ev w' => ev = .returned (.tuple #[]) ∧ EncF w0 b0 N e (s.add [c]) w' := by
  obtain ⟨bb, hE, hF⟩ := h
  obtain ⟨v, ⟨hown, hob⟩, c0, _, _, _, _, _, hfz, hes, hNe, hN⟩ := hE.cells
  have f0 := hfz 0
  obtain ⟨i0, hi, hz0, hz1, hz2⟩ := info_parts info_u8
  have hownA : (w.alloc (.cells #[.int .u8 (c.toNat : Int)] 5)).ownsRow N 5 1 v s.out.length (bvs s.out) := hown.alloc _
  have hEH := Lib.hid hE
  have hFH := Lib.hid hF
  have hobH := Lib.hid hob
  clear hE hF hob hfz
  have hlen' : s.out.length + 1 ≤ 1099511627776 := hlen
  clear hlen
  go_enter Tryz.func31, Tryz.ntmps31
  go_wp2_with (at_builtin; refine wpList_append_lies _ rfl (.tmp 8) (.tmp 10) 36 rfl N 5 i0 (.int .u8 0) 1 1 Tryz.underlying36 hi hz0 hz1 hz2 rfl (by omega) v s.out.length (bvs s.out) rfl hownA ⟨w.heap.size, 0, none⟩ 1 1 [.int .u8 (c.toNat : Int)] rfl rfl ?c1 ?c2 (by omega) ?c3 ?c4 (by simp; omega) (w.heap.size + 1) (by simp) ?next)
  case c1 => intro j u hj; match j, hj with | 0, hj => simp at hj; subst hj; simp [Addr.add]
  case c2 => intro u hu; simp at hu; subst hu; rfl
  case c3 => unfold maxLen; omega
  case c4 => omega
  case next =>
    intro g cap w1 hown1 hgrow hat hlt
    have hE := hEH.out
    have hob := hobH.out
    have hne : bb ≠ some e := by obtain ⟨_, _, _, h4, _⟩ := hE; exact h4
    have k0 : w1.cell? ⟨e, 0, none⟩ = some v := by
      rw [World.cell?_of_block (hgrow.block e (by simp; omega) (by rw [hob]; exact Ne.symm hne)), World.cell?_alloc_past _ _ _ hes]; exact c0
    have e0 : w1.frozen? ⟨e, 0, none⟩ = false := by
      rw [World.frozen?_of_block (hgrow.block e (by simp; omega) (by rw [hob]; exact Ne.symm hne)), World.frozen?_alloc_past _ _ _ hes]; exact f0
    have hfin : EncF w0 b0 N e (s.add [c]) (w1.setCell ⟨e, 0, none⟩ (.slice (some ⟨g, 0, none⟩) (s.out.length + 1) cap)) := by
      refine EncF.put hE hFH.out ⟨w.alloc (.cells #[.int .u8 (c.toNat : Int)] 5), fun k hk => heap_alloc_old w _ k hk, by simp, rfl, rfl, rfl, hob ▸ hgrow⟩ ?_ ?_
      · simpa [bvs, bv] using hown1
      · rcases hat with hx | hx
        · left; rw [← hob, hx]; rfl
        · right; exact ⟨g, by omega, rfl⟩
    have hfinH := Lib.hid hfin
    clear hfin hown1 hgrow hat hEH hFH hobH hE hob hownA hown
    go_wp2
    go_end0
    exact ⟨rfl, hfinH.out⟩

end Go.Proofs.YtokmkkkanphihaaGreatRDoor
