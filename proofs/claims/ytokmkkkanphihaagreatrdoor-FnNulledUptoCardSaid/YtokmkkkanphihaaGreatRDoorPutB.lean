/- The loops of impl.tree: what a list's or an object's writer puts, out of what is put for each of its values. -/
import Derived.Test.YtokmkkkanphihaaGreatRDoorYVal
namespace Go.Proofs.YtokmkkkanphihaaGreatRDoor
open Go.RowKit Go.Sort

mutual
theorem PVal.step {N : Nat} {w w' : World} (hb : ∀ k, k < N → w'.heap[k]? = w.heap[k]?) : ∀ {v : Val} {b o : Nat}, PVal N w v b o → PVal N w' v b o
  | .mk k i r t l ks, b, o, h => by
    simp only [PVal] at h ⊢
    obtain ⟨hN, c0, c1, c2, c3, ⟨ao, c, c4, hl⟩, ⟨ako, ck, c5, hk⟩⟩ := h
    have e : ∀ i, w'.cell? ⟨b, i, none⟩ = w.cell? ⟨b, i, none⟩ := fun i => World.cell?_of_block (hb b hN)
    refine ⟨hN, (e _).trans c0, (e _).trans c1, (e _).trans c2, (e _).trans c3, ⟨ao, c, (e _).trans c4, ?_⟩, ⟨ako, ck, (e _).trans c5, ?_⟩⟩
    · rcases hl with h | ⟨b2, o2, h1, h2⟩
      · exact .inl h
      · exact .inr ⟨b2, o2, h1, PList.step hb h2⟩
    · rcases hk with h | ⟨b2, o2, h1, h2, h3⟩
      · exact .inl h
      · exact .inr ⟨b2, o2, h1, h2, fun j hj => (World.cell?_of_block (hb b2 h2)).trans (h3 j hj)⟩
theorem PList.step {N : Nat} {w w' : World} (hb : ∀ k, k < N → w'.heap[k]? = w.heap[k]?) : ∀ {l : List Val} {b o : Nat}, PList N w l b o → PList N w' l b o
  | [], _, _, _ => by simp [PList]
  | v :: vs, b, o, h => by
    simp only [PList] at h ⊢
    exact ⟨PVal.step hb h.1, PList.step hb h.2⟩
end

theorem EncF.low {w0 w : World} {b0 : Option Nat} {N e : Nat} {s : St} (h : EncF w0 b0 N e s w) (hb : Base w0 b0 N) : ∀ k, k < N → w.heap[k]? = w0.heap[k]? := by
  obtain ⟨bb, hE, hF⟩ := h
  obtain ⟨v, h1, _, _, hNe⟩ := hE
  intro k hk
  refine hF.block k (Nat.lt_of_lt_of_le hk hb.tabs.size) (by omega) ?_
  intro hx
  have := hb.own k hx.symm
  omega

/-- A box is laid: from there on the encoder is as new, and the box stays. -/
theorem EncF.boxed {w0 w : World} {b0 : Option Nat} {N e : Nat} {s : St} (hB : Base w0 b0 N) (h : EncF w0 b0 N e s w) (x : Obj) :
    ∃ bb, EncF (w.alloc x) bb N e s (w.alloc x) ∧ Base (w.alloc x) bb N ∧ bb ≠ some w.heap.size ∧ e < w.heap.size ∧ N ≤ w.heap.size ∧ (∀ w' s', EncF (w.alloc x) bb N e s' w' → EncF w0 b0 N e s' w') := by
  have hT := (h.alloc x).tabs hB
  have hl := h.alloc x
  obtain ⟨bb, hE, hF⟩ := h
  have hE2 : Enc (w.alloc x) N e bb s := hE.step (fun k hk => heap_alloc_old w x k hk) (by simp)
  have hF2 : Fr e b0 w0 (w.alloc x) bb := hF.trans ⟨rfl, rfl, rfl, by simp, fun k hk _ _ => heap_alloc_old w x k hk, .inl rfl⟩
  obtain ⟨v, h1, ⟨h2, h3⟩, h4, h5⟩ := hE
  have he : e < w.heap.size := by
    rcases Nat.lt_or_ge e w.heap.size with h | h
    · exact h
    · rw [Array.getElem?_eq_none h] at h1; cases h1
  have ho := own_lt h2
  rw [h3] at ho
  refine ⟨bb, EncF.refl hE2, ⟨hT, fun g hg => (ho g hg).1⟩, ?_, he, by omega, fun w' s' hk => EncF.trans hF2 hk⟩
  intro hx
  have := (ho _ hx).2
  omega

theorem EncF.keep {w1 w : World} {bb : Option Nat} {N e : Nat} {s : St} (h : EncF w1 bb N e s w) {k : Nat} (hk : k < w1.heap.size) (he : k ≠ e) (hb : bb ≠ some k) (i : Nat) : w.cell? ⟨k, i, none⟩ = w1.cell? ⟨k, i, none⟩ := by
  obtain ⟨b2, hE, hF⟩ := h
  exact World.cell?_of_block (hF.block k hk he (Ne.symm hb))

/-- What is put for a value within a list or an object. -/
noncomputable def itemT (c op : UInt8) : Option Val → List UInt8
  | none => []
  | some x => sepT c op ++ valT x
/-- What is put for a member. -/
noncomputable def membOf (c : UInt8) (key : ByteArray) : Option Val → List UInt8
  | none => []
  | some x => sepT c 123 ++ quoteT key ++ [58] ++ valT x

def PutC (F : FuncId) (way : Int) (v : Val) : Prop :=
  ∀ (w0 w : World) (b0 : Option Nat) (N e : Nat) (s : St) (b o : Nat) (c : UInt8) (l : List UInt8), Base w0 b0 N → PVal N w0 v b o → EncF w0 b0 N e s w → s.out = l ++ [c] → c ≠ 123 → s.hk = false → s.ks = .slice none 0 0 → s.out.length + cost v ≤ lim →
    Calls Tryz.prog F #[.pointer (some ⟨e, 0, none⟩), .pointer (some ⟨b, o, none⟩)] w fun ev w' => ev = .returned (.tuple #[]) ∧ EncF w0 b0 N e (s.add (itemT c 91 (item way v))) w'

def PutK (F : FuncId) (way : Int) (v : Val) : Prop :=
  ∀ (w0 w : World) (b0 : Option Nat) (N e : Nat) (s : St) (b o : Nat) (c : UInt8) (l : List UInt8) (key : ByteArray), Base w0 b0 N → PVal N w0 v b o → EncF w0 b0 N e s w → s.out = l ++ [c] → s.hk = false → s.ks = .slice none 0 0 → s.out.length + (6 * key.size + cost v) ≤ lim →
    Calls Tryz.prog F #[.pointer (some ⟨e, 0, none⟩), .string key, .pointer (some ⟨b, o, none⟩)] w fun ev w' => ev = .returned (.tuple #[]) ∧ EncF w0 b0 N e (s.add (membOf c key (item way v))) w'

/-- Where the text of a list so far ends. -/
theorem list_end {way : Int} {l : List Val} (hG : GoodL l) {out : List UInt8} (ho : ∃ x, out = x ++ [91]) :
    ∃ x c, out ++ listT (redL way l) true = x ++ [c] ∧ ((c = 91) ↔ redL way l = []) ∧ c ≠ 123 := by
  rcases List.eq_nil_or_concat (redL way l) with h | ⟨a, v, h⟩
  · obtain ⟨x, hx⟩ := ho
    exact ⟨x, 91, by rw [h]; simp [listT, hx], by simp [h], by decide⟩
  · have hg := GoodL_red way l hG
    have hv : Good v := by
      rw [h] at hg
      have := hg.at a.length (by simp)
      simpa using this
    obtain ⟨y, d, hy, h1, h2⟩ := okEnd_val v hv
    rw [h, List.concat_eq_append, listT_append]
    refine ⟨out ++ listT a true ++ (if (true && a.isEmpty) then [] else [44]) ++ y, d, ?_, ?_, h2⟩
    · rw [listT, hy]; simp [listT]
    · simp [h1]

theorem membT_snoc (a : List Val) (v : Val) (ka : List ByteArray) (k : ByteArray) (h : ka.length = a.length) :
    membT (a ++ [v]) (ka ++ [k]) true = membT a ka true ++ ((if a.isEmpty then [] else [44]) ++ quoteT k ++ [58] ++ valT v) := by
  rw [membT_append a [v] ka [k] true h]
  simp [membT]

theorem memb_end {way : Int} {l : List Val} {ks : List ByteArray} (hG : GoodL l) {out : List UInt8} (ho : ∃ x, out = x ++ [123]) :
    ∃ x c, out ++ membT (redL way l) (redK way l ks) true = x ++ [c] ∧ ((c = 123) ↔ redL way l = []) := by
  have hlen := redK_length way l ks
  rcases List.eq_nil_or_concat (redL way l) with h | ⟨a, v, h⟩
  · obtain ⟨x, hx⟩ := ho
    exact ⟨x, 123, by rw [h]; simp [membT, hx], by simp [h]⟩
  · have hg := GoodL_red way l hG
    have hv : Good v := by
      rw [h] at hg
      have := hg.at a.length (by simp)
      simpa using this
    obtain ⟨y, d, hy, h1, h2⟩ := okEnd_val v hv
    rcases List.eq_nil_or_concat (redK way l ks) with hk | ⟨ka, k, hk⟩
    · rw [hk, h] at hlen; simp at hlen
    rw [h, hk, List.concat_eq_append, List.concat_eq_append, membT_snoc]
    · refine ⟨out ++ membT a ka true ++ (if a.isEmpty then [] else [44]) ++ quoteT k ++ [58] ++ y, d, ?_, ?_⟩
      · rw [hy]; simp
      · simp [h2]
    · rw [h, hk] at hlen
      simpa using hlen

theorem list_snoc {way : Int} {a : List Val} {v : Val} {c : UInt8} (hc : (c = 91) ↔ redL way a = []) : listT (redL way (a ++ [v])) true = listT (redL way a) true ++ itemT c 91 (item way v) := by
  rw [redL_snoc, listT_append]
  cases item way v with
  | none => simp [itemT, listT]
  | some x =>
    simp only [Option.toList, itemT, listT, Bool.true_and, List.append_nil]
    by_cases h : redL way a = []
    · rw [h, hc.2 h]; simp [sepT, listT]
    · have : (redL way a).isEmpty = false := by simp [h]
      rw [this]
      have hn : ¬ c = 91 := fun hx => h (hc.1 hx)
      simp [sepT, hn]

theorem memb_take {way : Int} {l : List Val} {ks : List ByteArray} {c : UInt8} {j : Nat} (hj : j < l.length) (hk : ks.length = l.length) (hc : (c = 123) ↔ redL way (l.take j) = []) :
    membT (redL way (l.take (j + 1))) (redK way (l.take (j + 1)) (ks.take (j + 1))) true = membT (redL way (l.take j)) (redK way (l.take j) (ks.take j)) true ++ membOf c ks[j] (item way l[j]) := by
  have e1 : l.take (j + 1) = l.take j ++ [l[j]] := List.take_succ_eq_append_getElem hj
  have e2 : ks.take (j + 1) = ks.take j ++ [ks[j]] := List.take_succ_eq_append_getElem (by omega)
  have hlen : (l.take j).length = j := by rw [List.length_take]; omega
  have hlk : (ks.take j).length = j := by rw [List.length_take]; omega
  rw [e1, e2, redL_snoc, redK_append way _ _ _ (by simp; omega), hlen]
  have e3 : (ks.take j ++ [ks[j]]).take j = ks.take j := by rw [List.take_append_of_le_length (by omega), List.take_take, Nat.min_self]
  have e4 : (ks.take j ++ [ks[j]]).drop j = [ks[j]] := by rw [List.drop_append, hlk, List.drop_of_length_le (by omega)]; simp
  rw [e3, e4, membT_append _ _ _ _ _ (redK_length way _ _)]
  congr 1
  rw [redK_cons]
  cases item way l[j] with
  | none => simp [membOf, membT]
  | some x =>
    simp only [Option.toList, membOf, membT, Bool.true_and, List.append_nil, List.headD_cons, List.append_assoc, List.cons_append, List.nil_append, redK]
    by_cases h : redL way (l.take j) = []
    · rw [h, hc.2 h]; simp [sepT]
    · have : (redL way (l.take j)).isEmpty = false := by simp [h]
      rw [this]
      have hn : ¬ c = 123 := fun hx => h (hc.1 hx)
      simp [sepT, hn]

theorem list_room {way : Int} {l : List Val} (hG : GoodL l) {j : Nat} (hj : j < l.length) : (listT (redL way (l.take j)) true).length + cost l[j] ≤ costL l := by
  have hgt : GoodL (l.take j) := by
    have : ∀ (a b : List Val), GoodL (a ++ b) → GoodL a := by
      intro a b
      induction a with
      | nil => simp [GoodL]
      | cons v a ih => simp only [List.cons_append, GoodL]; exact fun h => ⟨h.1, ih h.2⟩
    refine this _ (l.drop j) ?_
    rwa [List.take_append_drop]
  have h1 := listT_len way (l.take j) true hgt
  have h2 : costL (l.take j) + costL (l.drop j) = costL l := by rw [← costL_append, List.take_append_drop]
  have h3 : l.drop j = l[j] :: l.drop (j + 1) := List.drop_eq_getElem_cons hj
  rw [h3, costL] at h2
  omega

theorem GoodL.take {l : List Val} (hG : GoodL l) (j : Nat) : GoodL (l.take j) := by
  have : ∀ (a b : List Val), GoodL (a ++ b) → GoodL a := by
    intro a b
    induction a with
    | nil => simp [GoodL]
    | cons v a ih => simp only [List.cons_append, GoodL]; exact fun h => ⟨h.1, ih h.2⟩
  refine this _ (l.drop j) ?_
  rwa [List.take_append_drop]

theorem memb_room {way : Int} {l : List Val} {ks : List ByteArray} (hG : GoodL l) (hk : ks.length = l.length) {j : Nat} (hj : j < l.length) :
    (membT (redL way (l.take j)) (redK way (l.take j) (ks.take j)) true).length + (6 * ks[j].size + cost l[j]) ≤ costL l + costK ks := by
  have h1 := membT_len way (l.take j) (ks.take j) true (hG.take j)
  have h2 : costL (l.take j) + costL (l.drop j) = costL l := by rw [← costL_append, List.take_append_drop]
  have h3 : l.drop j = l[j] :: l.drop (j + 1) := List.drop_eq_getElem_cons hj
  have h4 : costK (ks.take j) + costK (ks.drop j) = costK ks := by rw [← costK_append, List.take_append_drop]
  have h5 : ks.drop j = ks[j] :: ks.drop (j + 1) := List.drop_eq_getElem_cons (by omega)
  rw [h3, costL] at h2
  rw [h5, costK] at h4
  omega
end Go.Proofs.YtokmkkkanphihaaGreatRDoor
