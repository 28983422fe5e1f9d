/- A value as a tree, how it lies in the memory, and the text that stands for it. -/
import Derived.Test.YtokmkkkanphihaaGreatRDoorTree
namespace Go.Proofs.YtokmkkkanphihaaGreatRDoor
open Go.RowKit Go.Sort

/-- impl.Value. -/
inductive Val where
  | mk (kind int : Int) (real : Nat) (text : ByteArray) (list : List Val) (keys : List ByteArray)

mutual
/-- The value v lies at block b from cell o on, below N. -/
def PVal (N : Nat) (w : World) : Val → Nat → Nat → Prop
  | .mk kind int real text list keys, b, o =>
    b < N ∧ w.cell? ⟨b, o, none⟩ = some (.int .i64 kind) ∧ w.cell? ⟨b, o + 1, none⟩ = some (.int .i64 int) ∧ w.cell? ⟨b, o + 2, none⟩ = some (.float .f64 real) ∧ w.cell? ⟨b, o + 3, none⟩ = some (.string text) ∧
    (∃ ao c, w.cell? ⟨b, o + 4, none⟩ = some (.slice ao list.length c) ∧ (list = [] ∨ ∃ b2 o2, ao = some ⟨b2, o2, none⟩ ∧ PList N w list b2 o2)) ∧
    (∃ ao c, w.cell? ⟨b, o + 5, none⟩ = some (.slice ao keys.length c) ∧ (keys = [] ∨ ∃ b2 o2, ao = some ⟨b2, o2, none⟩ ∧ b2 < N ∧ ∀ j (h : j < keys.length), w.cell? ⟨b2, o2 + j, none⟩ = some (.string keys[j])))
def PList (N : Nat) (w : World) : List Val → Nat → Nat → Prop
  | [], _, _ => True
  | v :: vs, b, o => PVal N w v b o ∧ PList N w vs b (o + 6)
end

theorem PList.at {N : Nat} {w : World} : ∀ {l : List Val} {b o : Nat}, PList N w l b o → ∀ j (h : j < l.length), PVal N w l[j] b (o + 6 * j)
  | [], _, _, _, j, h => by simp at h
  | v :: vs, b, o, hp, 0, _ => by simpa [PList] using hp.1
  | v :: vs, b, o, hp, j + 1, h => by
    simp only [PList] at hp
    have := PList.at hp.2 j (by simpa using h)
    rw [show o + 6 * (j + 1) = o + 6 + 6 * j by omega]
    simpa using this

open Classical in
/-- The text of a number with a fraction. -/
noncomputable def realT (b : Nat) : List UInt8 := if h : ∃ t, RealTxt b t then Classical.choose h else []

theorem realT_spec {b : Nat} (h : ∃ t, RealTxt b t) : RealTxt b (realT b) := by
  unfold realT
  rw [dif_pos h]
  exact Classical.choose_spec h

def quoteT (t : ByteArray) : List UInt8 := [34] ++ esc t.data.toList ++ [34]

mutual
/-- The text of a value, all of it. -/
noncomputable def valT : Val → List UInt8
  | .mk kind int real text list keys =>
    if kind = 2 then boolTxt (int == 1)
    else if kind = 3 then Lib.itoa int
    else if kind = 4 then realT real
    else if kind = 5 then quoteT text
    else if kind = 6 then [91] ++ listT list true ++ [93]
    else if kind = 7 then [123] ++ membT list keys true ++ [125]
    else [110, 117, 108, 108]
/-- The values of a list, a comma ahead of each but the first. -/
noncomputable def listT : List Val → Bool → List UInt8
  | [], _ => []
  | v :: vs, first => (if first then [] else [44]) ++ valT v ++ listT vs false
/-- The members of an object. -/
noncomputable def membT : List Val → List ByteArray → Bool → List UInt8
  | [], _, _ => []
  | v :: vs, ks, first => (if first then [] else [44]) ++ quoteT (ks.headD ByteArray.empty) ++ [58] ++ valT v ++ membT vs ks.tail false
end

/-- A store of what stands there already turns nothing. -/
theorem setCell_self {w : World} {e i : Nat} {cs : Array Value} {T : TypeId} {fr : Nat × Nat} {v : Value} (h : w.heap[e]? = some (.cells cs T fr)) (hv : cs[i]? = some v) : w.setCell ⟨e, i, none⟩ v = w := by
  have he : e < w.heap.size := by
    rcases Nat.lt_or_ge e w.heap.size with h' | h'
    · exact h'
    · rw [Array.getElem?_eq_none h'] at h; cases h
  have hi : i < cs.size := by
    rcases Nat.lt_or_ge i cs.size with h' | h'
    · exact h'
    · rw [Array.getElem?_eq_none h'] at hv; cases hv
  have hh : (w.setCell ⟨e, i, none⟩ v).heap = w.heap := by
    apply Array.ext_getElem?
    intro k
    simp only [World.setCell, Array.getElem?_modify]
    by_cases hk : e = k
    · subst hk
      rw [if_pos rfl, h]
      simp only [Option.map_some]
      have hset : cs.set! i v = cs := by
        apply Array.ext_getElem?
        intro m
        rw [Array.set!_eq_setIfInBounds, Array.getElem?_setIfInBounds]
        by_cases hm : i = m
        · subst hm
          rw [if_pos rfl, if_pos hi, hv]
        · rw [if_neg hm]
      first
        | rw [hset]
        | (congr 1; congr 1)
    · rw [if_neg hk]
  cases w
  simp only [World.setCell] at hh ⊢
  rw [hh]

/-- The encoder's keys are not told: both stores of 'Object' turn nothing. -/
theorem Enc.keys_self {w : World} {N e : Nat} {bb : Option Nat} {s : St} (h : Enc w N e bb s) (hk : s.hk = false) (hs : s.ks = .slice none 0 0) :
    w.setCell ⟨e, 4, none⟩ (.bool false) = w ∧ w.setCell ⟨e, 5, none⟩ (.slice none 0 0) = w := by
  obtain ⟨v, h1, _⟩ := h
  exact ⟨setCell_self h1 (by simp [encCells, hk]), setCell_self h1 (by simp [encCells, hs])⟩

theorem EncF.cell_low {w0 w : World} {b0 : Option Nat} {N e : Nat} {s : St} (h : EncF w0 b0 N e s w) (hb : Base w0 b0 N) {k : Nat} (hk : k < N) (i : Nat) : w.cell? ⟨k, i, none⟩ = w0.cell? ⟨k, i, none⟩ := by
  obtain ⟨bb, hE, hF⟩ := h
  obtain ⟨v, h1, _, _, hNe⟩ := hE
  refine World.cell?_of_block (hF.block k (Nat.lt_of_lt_of_le hk hb.tabs.size) (by omega) ?_)
  intro hx
  have := hb.own k hx.symm
  omega

/-- The cells that 'Object' reads and stores. -/
theorem EncF.keys {w0 w : World} {b0 : Option Nat} {N e : Nat} {s : St} (h : EncF w0 b0 N e s w) (hk : s.hk = false) (hs : s.ks = .slice none 0 0) :
    w.cell? ⟨e, 4, none⟩ = some (.bool false) ∧ w.cell? ⟨e, 5, none⟩ = some (.slice none 0 0) ∧ w.frozen? ⟨e, 4, none⟩ = false ∧ w.frozen? ⟨e, 5, none⟩ = false ∧
      w.setCell ⟨e, 4, none⟩ (.bool false) = w ∧ w.setCell ⟨e, 5, none⟩ (.slice none 0 0) = w := by
  obtain ⟨bb, hE, hF⟩ := h
  obtain ⟨v, _, _, _, _, _, c4, c5, hfz, _⟩ := hE.cells
  obtain ⟨s4, s5⟩ := hE.keys_self hk hs
  exact ⟨by rw [c4, hk], by rw [c5, hs], hfz 4, hfz 5, s4, s5⟩

/-- What a list's or an object's writer does behind its opening c: it puts T; K is the room that it asks for. -/
def Writes (F : FuncId) (recv : Value) (w0 : World) (b0 : Option Nat) (N e : Nat) (c : UInt8) (T : List UInt8) (K : Nat) : Prop :=
  T.length ≤ K ∧ ∀ (w : World) (s : St), EncF w0 b0 N e s w → (∃ l, s.out = l ++ [c]) → s.hk = false → s.ks = .slice none 0 0 → s.out.length + K ≤ lim →
    Calls Tryz.prog F #[recv, .pointer (some ⟨e, 0, none⟩)] w fun ev w' => ev = .returned (.tuple #[]) ∧ EncF w0 b0 N e (s.add T) w'
end Go.Proofs.YtokmkkkanphihaaGreatRDoor
