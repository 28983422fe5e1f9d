/- tree.IsNil, and the values that a tree is written from. -/
import Derived.Test.YtokmkkkanphihaaGreatRDoorMethA
namespace Go.Proofs.YtokmkkkanphihaaGreatRDoor
open Go.RowKit Go.Sort

/-- The tree that writes the value at a. -/
def treeV (b o : Nat) (way : Int) : Value := .agg #[.pointer (some ⟨b, o, none⟩), .int .i64 way]

set_option maxHeartbeats 800000 in
theorem IsNil_any {w : World} {b o n c : Nat} {ao : Option Addr} (way : Int) (h : w.cell? ⟨b, o + 4, none⟩ = some (.slice ao n c)) :
    Calls Tryz.prog 144 #[treeV b o way] w fun e w' => e = .returned (.bool (n == 0)) ∧ ∃ x, w' = w.alloc x := by
  have hb : b < w.heap.size := World.block_lt_of_cell? w _ h
  have hA : ∀ x, (w.alloc x).cell? ⟨b, o + 4, none⟩ = some (.slice ao n c) := fun x => by rw [World.cell?_alloc_past _ _ _ hb]; exact h
  unfold treeV
  clear h
  go_enter Tryz.func144, Tryz.ntmps144
  go_wp2
  go_ret
  exact ⟨congrArg (fun x => Ending.returned (.bool x)) (by rw [Bool.eq_iff_iff]; simp), _, rfl⟩
end Go.Proofs.YtokmkkkanphihaaGreatRDoor

/- A value as a tree, how it lies in the memory, and the text that stands for it. -/
namespace Go.Proofs.YtokmkkkanphihaaGreatRDoor
open Go.RowKit Go.Sort

/-- impl.Value. -/
inductive Val where
  | mk (kind int : Int) (real : Nat) (text : ByteArray) (list : List Val) (keys : List ByteArray)

mutual
/-- The value v lies at block b from cell o on, below N. -/
def PVal (N : Nat) (w : World) : Val → Nat → Nat → Prop
  | .mk kind int real text list keys, b, o =>
    b < N ∧ w.cell? ⟨b, o, none⟩ = some (.int .i64 kind) ∧ w.cell? ⟨b, o + 1, none⟩ = some (.int .i64 int) ∧ w.cell? ⟨b, o + 2, none⟩ = some (.float .f64 real) ∧ w.cell? ⟨b, o + 3, none⟩ = some (.string text) ∧
    (∃ ao c, w.cell? ⟨b, o + 4, none⟩ = some (.slice ao list.length c) ∧ (list = [] ∨ ∃ b2 o2, ao = some ⟨b2, o2, none⟩ ∧ PList N w list b2 o2)) ∧
    (∃ ao c, w.cell? ⟨b, o + 5, none⟩ = some (.slice ao keys.length c) ∧ (keys = [] ∨ ∃ b2 o2, ao = some ⟨b2, o2, none⟩ ∧ b2 < N ∧ ∀ j (h : j < keys.length), w.cell? ⟨b2, o2 + j, none⟩ = some (.string keys[j])))
def PList (N : Nat) (w : World) : List Val → Nat → Nat → Prop
  | [], _, _ => True
  | v :: vs, b, o => PVal N w v b o ∧ PList N w vs b (o + 6)
end

theorem PList.at {N : Nat} {w : World} : ∀ {l : List Val} {b o : Nat}, PList N w l b o → ∀ j (h : j < l.length), PVal N w l[j] b (o + 6 * j)
  | [], _, _, _, j, h => by simp at h
  | v :: vs, b, o, hp, 0, _ => by simpa [PList] using hp.1
  | v :: vs, b, o, hp, j + 1, h => by
    simp only [PList] at hp
    have := PList.at hp.2 j (by simpa using h)
    rw [show o + 6 * (j + 1) = o + 6 + 6 * j by omega]
    simpa using this

open Classical in
/-- The text of a number with a fraction. -/
noncomputable def realT (b : Nat) : List UInt8 := if h : ∃ t, RealTxt b t then Classical.choose h else []

theorem realT_spec {b : Nat} (h : ∃ t, RealTxt b t) : RealTxt b (realT b) := by
  unfold realT
  rw [dif_pos h]
  exact Classical.choose_spec h

def quoteT (t : ByteArray) : List UInt8 := [34] ++ esc t.data.toList ++ [34]

mutual
/-- The text of a value, all of it. -/
noncomputable def valT : Val → List UInt8
  | .mk kind int real text list keys =>
    if kind = 2 then boolTxt (int == 1)
    else if kind = 3 then Lib.itoa int
    else if kind = 4 then realT real
    else if kind = 5 then quoteT text
    else if kind = 6 then [91] ++ listT list true ++ [93]
    else if kind = 7 then [123] ++ membT list keys true ++ [125]
    else [110, 117, 108, 108]
/-- The values of a list, a comma ahead of each but the first. -/
noncomputable def listT : List Val → Bool → List UInt8
  | [], _ => []
  | v :: vs, first => (if first then [] else [44]) ++ valT v ++ listT vs false
/-- The members of an object. -/
noncomputable def membT : List Val → List ByteArray → Bool → List UInt8
  | [], _, _ => []
  | v :: vs, ks, first => (if first then [] else [44]) ++ quoteT (ks.headD ByteArray.empty) ++ [58] ++ valT v ++ membT vs ks.tail false
end

/-- A store of what stands there already turns nothing. -/
theorem setCell_self {w : World} {e i : Nat} {cs : Array Value} {T : TypeId} {fr : Nat × Nat} {v : Value} (h : w.heap[e]? = some (.cells cs T fr)) (hv : cs[i]? = some v) : w.setCell ⟨e, i, none⟩ v = w := by
  have he : e < w.heap.size := by
    rcases Nat.lt_or_ge e w.heap.size with h' | h'
    · exact h'
    · rw [Array.getElem?_eq_none h'] at h; cases h
  have hi : i < cs.size := by
    rcases Nat.lt_or_ge i cs.size with h' | h'
    · exact h'
    · rw [Array.getElem?_eq_none h'] at hv; cases hv
  have hh : (w.setCell ⟨e, i, none⟩ v).heap = w.heap := by
    apply Array.ext_getElem?
    intro k
    simp only [World.setCell, Array.getElem?_modify]
    by_cases hk : e = k
    · subst hk
      rw [if_pos rfl, h]
      simp only [Option.map_some]
      have hset : cs.set! i v = cs := by
        apply Array.ext_getElem?
        intro m
        rw [Array.set!_eq_setIfInBounds, Array.getElem?_setIfInBounds]
        by_cases hm : i = m
        · subst hm
          rw [if_pos rfl, if_pos hi, hv]
        · rw [if_neg hm]
      first
        | rw [hset]
        | (congr 1; congr 1)
    · rw [if_neg hk]
  cases w
  simp only [World.setCell] at hh ⊢
  rw [hh]

/-- The encoder's keys are not told: both stores of 'Object' turn nothing. -/
theorem Enc.keys_self {w : World} {N e : Nat} {bb : Option Nat} {s : St} (h : Enc w N e bb s) (hk : s.hk = false) (hs : s.ks = .slice none 0 0) :
    w.setCell ⟨e, 4, none⟩ (.bool false) = w ∧ w.setCell ⟨e, 5, none⟩ (.slice none 0 0) = w := by
  obtain ⟨v, h1, _⟩ := h
  exact ⟨setCell_self h1 (by simp [encCells, hk]), setCell_self h1 (by simp [encCells, hs])⟩

theorem EncF.cell_low {w0 w : World} {b0 : Option Nat} {N e : Nat} {s : St} (h : EncF w0 b0 N e s w) (hb : Base w0 b0 N) {k : Nat} (hk : k < N) (i : Nat) : w.cell? ⟨k, i, none⟩ = w0.cell? ⟨k, i, none⟩ := by
  obtain ⟨bb, hE, hF⟩ := h
  obtain ⟨v, h1, _, _, hNe⟩ := hE
  refine World.cell?_of_block (hF.block k (Nat.lt_of_lt_of_le hk hb.tabs.size) (by omega) ?_)
  intro hx
  have := hb.own k hx.symm
  omega

/-- The cells that 'Object' reads and stores. -/
theorem EncF.keys {w0 w : World} {b0 : Option Nat} {N e : Nat} {s : St} (h : EncF w0 b0 N e s w) (hk : s.hk = false) (hs : s.ks = .slice none 0 0) :
    w.cell? ⟨e, 4, none⟩ = some (.bool false) ∧ w.cell? ⟨e, 5, none⟩ = some (.slice none 0 0) ∧ w.frozen? ⟨e, 4, none⟩ = false ∧ w.frozen? ⟨e, 5, none⟩ = false ∧
      w.setCell ⟨e, 4, none⟩ (.bool false) = w ∧ w.setCell ⟨e, 5, none⟩ (.slice none 0 0) = w := by
  obtain ⟨bb, hE, hF⟩ := h
  obtain ⟨v, _, _, _, _, _, c4, c5, hfz, _⟩ := hE.cells
  obtain ⟨s4, s5⟩ := hE.keys_self hk hs
  exact ⟨by rw [c4, hk], by rw [c5, hs], hfz 4, hfz 5, s4, s5⟩

/-- What a list's or an object's writer does behind its opening c: it puts T; K is the room that it asks for. -/
def Writes (F : FuncId) (recv : Value) (w0 : World) (b0 : Option Nat) (N e : Nat) (c : UInt8) (T : List UInt8) (K : Nat) : Prop :=
  T.length ≤ K ∧ ∀ (w : World) (s : St), EncF w0 b0 N e s w → (∃ l, s.out = l ++ [c]) → s.hk = false → s.ks = .slice none 0 0 → s.out.length + K ≤ lim →
    Calls Tryz.prog F #[recv, .pointer (some ⟨e, 0, none⟩)] w fun ev w' => ev = .returned (.tuple #[]) ∧ EncF w0 b0 N e (s.add T) w'
end Go.Proofs.YtokmkkkanphihaaGreatRDoor

/- What a value is without what is empty in it (way 1), or with null for it (way 2); the texts of values: how they join, how long they are, how they end. -/
namespace Go.Proofs.YtokmkkkanphihaaGreatRDoor
open Go.RowKit Go.Sort

def nullV : Val := .mk 1 0 0 ByteArray.empty [] []

def zeroW (r : Nat) : Bool := r == 0 || r == 9223372036854775808

def emptyV : Val → Bool
  | .mk k i r t l _ => if k = 2 ∨ k = 3 then i == 0 else if k = 4 then zeroW r else if k = 5 then t.size == 0 else if k = 6 ∨ k = 7 then l.isEmpty else false

mutual
def redV (way : Int) : Val → Val
  | .mk k i r t l ks => .mk k i r t (redL way l) (if k = 7 then redK way l ks else ks)
def redL (way : Int) : List Val → List Val
  | [] => []
  | v :: vs => (if way = 1 ∧ emptyV v = true then [] else if way = 2 ∧ emptyV v = true then [nullV] else [redV way v]) ++ redL way vs
def redK (way : Int) : List Val → List ByteArray → List ByteArray
  | [], _ => []
  | v :: vs, ks => (if way = 1 ∧ emptyV v = true then [] else [ks.headD ByteArray.empty]) ++ redK way vs ks.tail
end

/-- What is written of a value within others: nothing, or a value. -/
def item (way : Int) (v : Val) : Option Val := if way = 1 ∧ emptyV v = true then none else if way = 2 ∧ emptyV v = true then some nullV else some (redV way v)

theorem redL_cons (way : Int) (v : Val) (vs : List Val) : redL way (v :: vs) = (item way v).toList ++ redL way vs := by
  unfold item
  simp only [redL]
  split
  · rfl
  · split
    · rfl
    · rfl

theorem redK_cons (way : Int) (v : Val) (vs : List Val) (ks : List ByteArray) : redK way (v :: vs) ks = (match item way v with | none => [] | some _ => [ks.headD ByteArray.empty]) ++ redK way vs ks.tail := by
  unfold item
  simp only [redK]
  by_cases h : way = 1 ∧ emptyV v = true
  · rw [if_pos h, if_pos h]
  · rw [if_neg h, if_neg h]
    by_cases h2 : way = 2 ∧ emptyV v = true
    · rw [if_pos h2]
    · rw [if_neg h2]

theorem redL_append (way : Int) : ∀ a b : List Val, redL way (a ++ b) = redL way a ++ redL way b
  | [], b => by simp [redL]
  | v :: a, b => by rw [List.cons_append, redL_cons, redL_cons, redL_append way a b, List.append_assoc]

theorem redL_snoc (way : Int) (a : List Val) (v : Val) : redL way (a ++ [v]) = redL way a ++ (item way v).toList := by
  rw [redL_append, redL_cons]; simp [redL]

theorem redK_append (way : Int) : ∀ (a b : List Val) (ks : List ByteArray), a.length ≤ ks.length → redK way (a ++ b) ks = redK way a (ks.take a.length) ++ redK way b (ks.drop a.length)
  | [], b, ks, _ => by simp [redK]
  | v :: a, b, [], h => by simp at h
  | v :: a, b, k :: ks, h => by
    rw [List.cons_append, redK_cons, redK_cons]
    simp only [List.length_cons, List.take_succ_cons, List.headD_cons, List.tail_cons, List.drop_succ_cons]
    rw [redK_append way a b ks (by simpa using h), List.append_assoc]

theorem redK_length (way : Int) : ∀ (a : List Val) (ks : List ByteArray), (redK way a ks).length = (redL way a).length
  | [], _ => by simp [redK, redL]
  | v :: a, ks => by
    rw [redK_cons, redL_cons, List.length_append, List.length_append, redK_length way a ks.tail]
    cases item way v <;> simp

theorem listT_append : ∀ (a b : List Val) (first : Bool), listT (a ++ b) first = listT a first ++ listT b (first && a.isEmpty)
  | [], b, first => by simp [listT]
  | v :: a, b, first => by
    rw [List.cons_append, listT, listT, listT_append a b false]
    simp

theorem membT_append : ∀ (a b : List Val) (ka kb : List ByteArray) (first : Bool), ka.length = a.length → membT (a ++ b) (ka ++ kb) first = membT a ka first ++ membT b kb (first && a.isEmpty)
  | [], b, ka, kb, first, h => by
    have : ka = [] := List.length_eq_zero_iff.1 (by simpa using h)
    subst this
    simp [membT]
  | v :: a, b, [], kb, first, h => by simp at h
  | v :: a, b, k :: ka, kb, first, h => by
    rw [List.cons_append, membT, membT]
    simp only [List.cons_append, List.headD_cons, List.tail_cons]
    rw [membT_append a b ka kb false (by simpa using h)]
    simp

def okEnd (l : List UInt8) : Prop := ∃ x d, l = x ++ [d] ∧ d ≠ 91 ∧ d ≠ 123

theorem okEnd.pre {l : List UInt8} (h : okEnd l) (a : List UInt8) : okEnd (a ++ l) := by
  obtain ⟨x, d, rfl, h1, h2⟩ := h
  exact ⟨a ++ x, d, by simp, h1, h2⟩

theorem okEnd_one {d : UInt8} (h1 : d ≠ 91) (h2 : d ≠ 123) : okEnd [d] := ⟨[], d, rfl, h1, h2⟩
theorem okEnd_snoc (x : List UInt8) {d : UInt8} (h1 : d ≠ 91) (h2 : d ≠ 123) : okEnd (x ++ [d]) := ⟨x, d, rfl, h1, h2⟩

theorem digit_ok {d : Nat} (h : d < 10) : UInt8.ofNat (48 + d) ≠ 91 ∧ UInt8.ofNat (48 + d) ≠ 123 := by
  have : ∀ b : Fin 10, UInt8.ofNat (48 + b.val) ≠ 91 ∧ UInt8.ofNat (48 + b.val) ≠ 123 := by decide
  exact this ⟨d, h⟩

theorem okEnd_dec (n : Nat) : okEnd (Lib.decDigits n) := by
  by_cases h : n < 10
  · rw [Fl.dec_small h]; exact okEnd_one (digit_ok h).1 (digit_ok h).2
  · rw [Fl.dec_big h]; exact okEnd_snoc _ (digit_ok (Nat.mod_lt _ (by decide))).1 (digit_ok (Nat.mod_lt _ (by decide))).2

theorem okEnd_itoa (i : Int) : okEnd (Lib.itoa i) := by
  unfold Lib.itoa
  split
  · exact (okEnd_dec _).pre [45]
  · exact okEnd_dec _

theorem okEnd_plain (n k : Nat) : okEnd (Fl.plainTxt n k) := by
  unfold Fl.plainTxt
  split
  · rw [List.append_nil]; exact okEnd_dec _
  · rename_i h
    obtain ⟨j, rfl⟩ : ∃ j, k = j + 1 := ⟨k - 1, by omega⟩
    rw [Fl.digs, ← List.append_assoc, ← List.append_assoc]
    exact okEnd_snoc _ (digit_ok (Nat.mod_lt _ (by decide))).1 (digit_ok (Nat.mod_lt _ (by decide))).2

theorem okEnd_real {b : Nat} {t : List UInt8} (h : RealTxt b t) : okEnd t := by
  rcases h with ⟨neg, _, rfl⟩ | ⟨neg, n, k, mag, _, _, _, _, _, _, rfl⟩
  · exact okEnd_snoc _ (by decide) (by decide)
  · exact (okEnd_plain n k).pre _

theorem nDigits_le {n k : Nat} (hk : 0 < k) (h : n < 10 ^ k) : Lib.nDigits n ≤ k := by
  induction k generalizing n with
  | zero => omega
  | succ k ih =>
    by_cases h10 : n < 10
    · rw [Lib.nDigits_small h10]; omega
    · rw [Lib.nDigits_big h10]
      rcases Nat.eq_zero_or_pos k with h0 | h0
      · subst h0; simp at h; omega
      · have := ih (n := n / 10) h0 (by rw [Nat.pow_succ] at h; omega)
        omega

theorem dec_le {n k : Nat} (hk : 0 < k) (h : n < 10 ^ k) : (Lib.decDigits n).length ≤ k := by rw [Lib.decDigits_length]; exact nDigits_le hk h

theorem real_len {b : Nat} {t : List UInt8} (h : RealTxt b t) : t.length ≤ 40 := by
  rcases h with ⟨neg, _, rfl⟩ | ⟨neg, n, k, mag, h0, hn, hk, _, _, _, rfl⟩
  · have := sgn_len neg; simp; omega
  · have h1 := sgn_len neg
    have h2 : (Lib.decDigits (n / 10 ^ k)).length ≤ 15 := dec_le (by decide) (Nat.lt_of_le_of_lt (Nat.div_le_self _ _) hn)
    unfold Fl.plainTxt
    split
    · simp; omega
    · simp [Fl.digs_len]; omega

theorem itoa_len {i : Int} (h0 : -9223372036854775808 ≤ i) (h1 : i ≤ 9223372036854775807) : (Lib.itoa i).length ≤ 20 := by
  have e : (10 : Nat) ^ 19 = 10000000000000000000 := by decide
  unfold Lib.itoa
  split
  · have : (Lib.decDigits i.natAbs).length ≤ 19 := dec_le (by decide) (by rw [e]; omega)
    simp; omega
  · have : (Lib.decDigits i.toNat).length ≤ 19 := dec_le (by decide) (by rw [e]; omega)
    omega

mutual
/-- A value that is written: its kinds, its numbers, its keys. -/
def Good : Val → Prop
  | .mk k i r _ l ks => (1 ≤ k ∧ k ≤ 7) ∧ (-9223372036854775808 ≤ i ∧ i ≤ 9223372036854775807) ∧ (k = 4 → ∃ t, RealTxt r t) ∧ (k = 7 → ks.length = l.length) ∧ (k < 6 → l = []) ∧ (k ≠ 7 → ks = []) ∧ GoodL l
def GoodL : List Val → Prop
  | [] => True
  | v :: vs => Good v ∧ GoodL vs
end

theorem GoodL.at : ∀ {l : List Val}, GoodL l → ∀ j (h : j < l.length), Good l[j]
  | [], _, j, h => by simp at h
  | v :: vs, hp, 0, _ => by simpa [GoodL] using hp.1
  | v :: vs, hp, j + 1, h => by
    simp only [GoodL] at hp
    simpa using GoodL.at hp.2 j (by simpa using h)

mutual
theorem okEnd_val : ∀ v : Val, Good v → okEnd (valT v)
  | .mk k i r t l ks, h => by
    simp only [Good] at h
    obtain ⟨⟨h1, h7⟩, _, hr, _⟩ := h
    rw [valT]
    split
    · unfold boolTxt; split
      · exact okEnd_snoc [116, 114, 117] (by decide) (by decide)
      · exact okEnd_snoc [102, 97, 108, 115] (by decide) (by decide)
    split
    · exact okEnd_itoa i
    split
    · rename_i h4
      exact okEnd_real (realT_spec (hr h4))
    split
    · exact okEnd_snoc _ (by decide) (by decide)
    split
    · exact okEnd_snoc _ (by decide) (by decide)
    split
    · exact okEnd_snoc _ (by decide) (by decide)
    · exact okEnd_snoc [110, 117, 108] (by decide) (by decide)
end

theorem Good_null : Good nullV := by
  unfold nullV
  simp [Good, GoodL]

mutual
theorem Good_red (way : Int) : ∀ v : Val, Good v → Good (redV way v)
  | .mk k i r t l ks, h => by
    simp only [Good] at h
    obtain ⟨h1, h2, h3, h4, h5, h6, h7⟩ := h
    simp only [redV, Good]
    refine ⟨h1, h2, h3, fun hk => ?_, fun hk => ?_, fun hk => ?_, GoodL_red way l h7⟩
    · rw [if_pos hk, redK_length]
    · rw [h5 hk]; simp [redL]
    · rw [if_neg hk]; exact h6 hk
theorem GoodL_red (way : Int) : ∀ l : List Val, GoodL l → GoodL (redL way l)
  | [], _ => by simp [redL, GoodL]
  | v :: vs, h => by
    simp only [GoodL] at h
    have h1 := Good_red way v h.1
    have h2 := GoodL_red way vs h.2
    simp only [redL]
    split
    · simpa using h2
    · split
      · simp only [List.cons_append, List.nil_append, GoodL]; exact ⟨Good_null, h2⟩
      · simp only [List.cons_append, List.nil_append, GoodL]; exact ⟨h1, h2⟩
end

/-- How much room a value's text and its writing may ask for. -/
def costK : List ByteArray → Nat
  | [] => 0
  | k :: ks => 6 * k.size + 10 + costK ks
mutual
def cost : Val → Nat
  | .mk _ _ _ t l ks => 2000 + 6 * t.size + costL l + costK ks
def costL : List Val → Nat
  | [] => 0
  | v :: vs => cost v + 10 + costL vs
end

theorem costL_append : ∀ a b : List Val, costL (a ++ b) = costL a + costL b
  | [], b => by simp [costL]
  | v :: a, b => by simp only [List.cons_append, costL, costL_append a b]; omega

theorem costK_append : ∀ a b : List ByteArray, costK (a ++ b) = costK a + costK b
  | [], b => by simp [costK]
  | v :: a, b => by simp only [List.cons_append, costK, costK_append a b]; omega

theorem quote_len (t : ByteArray) : (quoteT t).length ≤ 6 * t.size + 2 := by
  have := esc_len t.data.toList
  simp only [Array.length_toList] at this
  unfold quoteT
  simp only [List.length_append, List.length_cons, List.length_nil]
  have : t.data.size = t.size := rfl
  omega

mutual
theorem valT_len (way : Int) : ∀ v : Val, Good v → (valT (redV way v)).length + 1900 ≤ cost v
  | .mk k i r t l ks, h => by
    simp only [Good] at h
    obtain ⟨_, h2, h3, _, _, _, h7⟩ := h
    have hl := listT_len way l true h7
    have hm := membT_len way l ks true h7
    have hq := quote_len t
    have hi := itoa_len h2.1 h2.2
    simp only [redV, cost]
    rw [valT]
    split
    · unfold boolTxt; split <;> simp <;> omega
    split
    · omega
    split
    · rename_i h4
      have := real_len (realT_spec (h3 h4))
      omega
    split
    · omega
    split
    · simp only [List.length_append, List.length_cons, List.length_nil]; omega
    split
    · simp only [List.length_append, List.length_cons, List.length_nil]; omega
    · simp only [List.length_cons, List.length_nil]; omega
theorem listT_len (way : Int) : ∀ (l : List Val) (first : Bool), GoodL l → (listT (redL way l) first).length ≤ costL l
  | [], _, _ => by simp [redL, listT]
  | v :: vs, first, h => by
    simp only [GoodL] at h
    have h1 := valT_len way v h.1
    have h2 : ∀ f, (listT (redL way vs) f).length ≤ costL vs := fun f => listT_len way vs f h.2
    have h0 : (valT nullV).length = 4 := by unfold nullV; rw [valT]; rfl
    simp only [redL, costL]
    split
    · rw [List.nil_append]; have := h2 first; omega
    · split
      · rw [List.cons_append, List.nil_append, listT]
        have := h2 false
        simp only [List.length_append]
        split <;> simp <;> omega
      · rw [List.cons_append, List.nil_append, listT]
        have := h2 false
        simp only [List.length_append]
        split <;> simp <;> omega
theorem membT_len (way : Int) : ∀ (l : List Val) (ks : List ByteArray) (first : Bool), GoodL l → (membT (redL way l) (redK way l ks) first).length ≤ costL l + costK ks
  | [], _, _, _ => by simp [redL, membT]
  | v :: vs, ks, first, h => by
    simp only [GoodL] at h
    have h1 := valT_len way v h.1
    have h2 : ∀ f, (membT (redL way vs) (redK way vs ks.tail) f).length ≤ costL vs + costK ks.tail := fun f => membT_len way vs ks.tail f h.2
    have h0 : (valT nullV).length = 4 := by unfold nullV; rw [valT]; rfl
    have hq := quote_len (ks.headD ByteArray.empty)
    have hk : 6 * (ks.headD ByteArray.empty).size + costK ks.tail ≤ costK ks := by
      cases ks with
      | nil => simp [costK]
      | cons k ks => simp [costK]
    simp only [redL, redK, costL]
    generalize ks.headD ByteArray.empty = kh at *
    split
    · rw [List.nil_append, List.nil_append]; have := h2 first; omega
    · split
      · simp only [List.cons_append, List.nil_append]
        rw [membT]
        have := h2 false
        simp only [List.length_append, List.headD_cons, List.tail_cons]
        split <;> simp <;> omega
      · simp only [List.cons_append, List.nil_append]
        rw [membT]
        have := h2 false
        simp only [List.length_append, List.headD_cons, List.tail_cons]
        split <;> simp <;> omega
end
end Go.Proofs.YtokmkkkanphihaaGreatRDoor
