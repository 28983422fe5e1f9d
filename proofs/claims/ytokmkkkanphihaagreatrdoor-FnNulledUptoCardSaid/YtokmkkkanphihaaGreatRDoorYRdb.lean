/- What a node of the reference's reader holds: how a tree of nodes lies in the memory. -/
import Derived.Test.YtokmkkkanphihaaGreatRDoorYRda
import Derived.Test.YtokmkkkanphihaaGreatRDoorMar2
import Derived.LoopN
import Derived.Test.YtokmkkkanphihaaGreatRDoorWr
namespace Go.Proofs.YtokmkkkanphihaaGreatRDoor
open Go.RowKit Go.Sort

/-- A number is a number. -/
def nodeK (k : Int) : Int := if k = 4 then 3 else k

/-- What stands in a node's text. -/
noncomputable def nodeT (k i : Int) (r : Nat) (t : ByteArray) : ByteArray :=
  if k = 1 then ⟨#[110, 117, 108, 108]⟩ else if k = 2 then ⟨(boolTxt (i == 1)).toArray⟩ else if k = 3 then ⟨(Lib.itoa i).toArray⟩ else if k = 4 then ⟨(realT r).toArray⟩ else if k = 5 then t else ByteArray.empty

/-- The keys that lie in a slice. -/
def KeysIn (S : Nat → Prop) (w : World) (ks : List ByteArray) (v : Value) : Prop :=
  ∃ ao c, v = .slice ao ks.length c ∧ (ks = [] ∨ ∃ b2 o2, ao = some ⟨b2, o2, none⟩ ∧ S b2 ∧ ∀ j (h : j < ks.length), w.cell? ⟨b2, o2 + j, none⟩ = some (.string ks[j]))

mutual
/-- The node of the value v lies at block b from cell o on; what it leads to lies in blocks of S. -/
def PNode (S : Nat → Prop) (w : World) : Val → Nat → Nat → Prop
  | .mk k i r t l ks, b, o =>
    w.cell? ⟨b, o, none⟩ = some (.int .i64 (nodeK k)) ∧ w.cell? ⟨b, o + 1, none⟩ = some (.string (nodeT k i r t)) ∧
    (∃ v, w.cell? ⟨b, o + 2, none⟩ = some v ∧ ∃ ao c, v = .slice ao l.length c ∧ (l = [] ∨ ∃ b2 o2, ao = some ⟨b2, o2, none⟩ ∧ S b2 ∧ PNodes S w l b2 o2)) ∧
    (∃ v, w.cell? ⟨b, o + 3, none⟩ = some v ∧ KeysIn S w ks v) ∧
    (∃ x, w.cell? ⟨b, o + 4, none⟩ = some (.int .i64 x)) ∧ (∃ x, w.cell? ⟨b, o + 5, none⟩ = some (.int .i64 x))
def PNodes (S : Nat → Prop) (w : World) : List Val → Nat → Nat → Prop
  | [], _, _ => True
  | v :: vs, b, o => PNode S w v b o ∧ PNodes S w vs b (o + 6)
end

/-- The nodes that lie in a slice. -/
def NodesIn (S : Nat → Prop) (w : World) (l : List Val) (v : Value) : Prop :=
  ∃ ao c, v = .slice ao l.length c ∧ (l = [] ∨ ∃ b2 o2, ao = some ⟨b2, o2, none⟩ ∧ S b2 ∧ PNodes S w l b2 o2)

/-- A node by value. -/
noncomputable def aggN : Val → Value → Value → Int → Int → Array Value
  | .mk k i r t _ _, ls, kv, x, y => #[.int .i64 (nodeK k), .string (nodeT k i r t), ls, kv, .int .i64 x, .int .i64 y]

def NSubs (S : Nat → Prop) (w : World) : Val → Value → Value → Prop
  | .mk _ _ _ _ l ks, ls, kv => NodesIn S w l ls ∧ KeysIn S w ks kv

theorem KeysIn.step {S S' : Nat → Prop} {w w' : World} {ks : List ByteArray} {v : Value} (h : KeysIn S w ks v) (hb : ∀ k, S k → w'.heap[k]? = w.heap[k]?) (hS : ∀ k, S k → S' k) : KeysIn S' w' ks v := by
  obtain ⟨ao, c, rfl, h⟩ := h
  refine ⟨ao, c, rfl, ?_⟩
  rcases h with h | ⟨b2, o2, h1, h2, h3⟩
  · exact .inl h
  · exact .inr ⟨b2, o2, h1, hS _ h2, fun j hj => (World.cell?_of_block (hb b2 h2)).trans (h3 j hj)⟩

mutual
theorem PNode.step {S S' : Nat → Prop} {w w' : World} (hb : ∀ k, S k → w'.heap[k]? = w.heap[k]?) (hS : ∀ k, S k → S' k) : ∀ {v : Val} {b b' o o' : Nat}, PNode S w v b o → (∀ j, j < 6 → w'.cell? ⟨b', o' + j, none⟩ = w.cell? ⟨b, o + j, none⟩) → PNode S' w' v b' o'
  | .mk k i r t l ks, b, b', o, o', h, hc => by
    simp only [PNode] at h ⊢
    obtain ⟨c0, c1, ⟨v2, c2, ao, c, e2, h2⟩, ⟨v3, c3, h3⟩, ⟨x, c4⟩, ⟨y, c5⟩⟩ := h
    refine ⟨(hc 0 (by decide)).trans c0, (hc 1 (by decide)).trans c1, ⟨v2, (hc 2 (by decide)).trans c2, ao, c, e2, ?_⟩, ⟨v3, (hc 3 (by decide)).trans c3, h3.step hb hS⟩, ⟨x, (hc 4 (by decide)).trans c4⟩, ⟨y, (hc 5 (by decide)).trans c5⟩⟩
    rcases h2 with h2 | ⟨b2, o2, k1, k2, k3⟩
    · exact .inl h2
    · exact .inr ⟨b2, o2, k1, hS _ k2, PNodes.step hb hS k3 fun j _ => World.cell?_of_block (hb b2 k2)⟩
theorem PNodes.step {S S' : Nat → Prop} {w w' : World} (hb : ∀ k, S k → w'.heap[k]? = w.heap[k]?) (hS : ∀ k, S k → S' k) : ∀ {l : List Val} {b b' o o' : Nat}, PNodes S w l b o → (∀ j, j < 6 * l.length → w'.cell? ⟨b', o' + j, none⟩ = w.cell? ⟨b, o + j, none⟩) → PNodes S' w' l b' o'
  | [], _, _, _, _, _, _ => by simp [PNodes]
  | v :: vs, b, b', o, o', h, hc => by
    simp only [PNodes] at h ⊢
    simp only [List.length_cons] at hc
    refine ⟨PNode.step hb hS h.1 fun j hj => hc j (by omega), PNodes.step hb hS h.2 fun j hj => ?_⟩
    have := hc (6 + j) (by omega)
    rw [show o' + 6 + j = o' + (6 + j) by omega, show o + 6 + j = o + (6 + j) by omega]
    exact this
end

theorem NodesIn.step {S S' : Nat → Prop} {w w' : World} {l : List Val} {v : Value} (h : NodesIn S w l v) (hb : ∀ k, S k → w'.heap[k]? = w.heap[k]?) (hS : ∀ k, S k → S' k) : NodesIn S' w' l v := by
  obtain ⟨ao, c, rfl, h⟩ := h
  refine ⟨ao, c, rfl, ?_⟩
  rcases h with h | ⟨b2, o2, h1, h2, h3⟩
  · exact .inl h
  · exact .inr ⟨b2, o2, h1, hS _ h2, PNodes.step hb hS h3 fun j _ => World.cell?_of_block (hb b2 h2)⟩

theorem NSubs.step {S S' : Nat → Prop} {w w' : World} {v : Val} {ls kv : Value} (h : NSubs S w v ls kv) (hb : ∀ k, S k → w'.heap[k]? = w.heap[k]?) (hS : ∀ k, S k → S' k) : NSubs S' w' v ls kv := by
  obtain ⟨k, i, r, t, l, ks⟩ := v
  exact ⟨h.1.step hb hS, h.2.step hb hS⟩

theorem PNodes.at {S : Nat → Prop} {w : World} : ∀ {l : List Val} {b o : Nat}, PNodes S w l b o → ∀ j (h : j < l.length), PNode S w l[j] b (o + 6 * j)
  | [], b, o, hp, j, h => by simp at h
  | v :: vs, b, o, hp, 0, _ => by simpa [PNodes] using hp.1
  | v :: vs, b, o, hp, j + 1, h => by
    simp only [PNodes] at hp
    have := PNodes.at hp.2 j (by simpa using h)
    rw [show o + 6 * (j + 1) = o + 6 + 6 * j by omega]
    simpa using this

theorem PNodes.snoc {S : Nat → Prop} {w : World} : ∀ {l : List Val} {v : Val} {b o : Nat}, PNodes S w l b o → PNode S w v b (o + 6 * l.length) → PNodes S w (l ++ [v]) b o
  | [], v, b, o, _, hv => by simpa [PNodes] using hv
  | z :: l, v, b, o, h, hv => by
    simp only [PNodes, List.cons_append] at h ⊢
    refine ⟨h.1, PNodes.snoc h.2 ?_⟩
    rw [List.length_cons] at hv
    rw [show o + 6 + 6 * l.length = o + 6 * (l.length + 1) by omega]
    exact hv

/-- A node's six cells. -/
theorem PNode.cells {S : Nat → Prop} {w : World} {v : Val} {b o : Nat} (h : PNode S w v b o) : ∃ ls kv x y, NSubs S w v ls kv ∧ ∀ j (hj : j < 6), w.cell? ⟨b, o + j, none⟩ = some ((aggN v ls kv x y)[j]'(by obtain ⟨k, i, r, t, l, ks⟩ := v; exact hj)) := by
  obtain ⟨k, i, r, t, l, ks⟩ := v
  simp only [PNode] at h
  obtain ⟨c0, c1, ⟨v2, c2, h2⟩, ⟨v3, c3, h3⟩, ⟨x, c4⟩, ⟨y, c5⟩⟩ := h
  refine ⟨v2, v3, x, y, ⟨h2, h3⟩, fun j hj => ?_⟩
  rcases j with _ | _ | _ | _ | _ | _ | j
  · exact c0
  · exact c1
  · exact c2
  · exact c3
  · exact c4
  · exact c5
  · omega

theorem PNode.of {S : Nat → Prop} {w : World} {v : Val} {b o : Nat} {ls kv : Value} {x y : Int} (hs : NSubs S w v ls kv) (hc : ∀ j (hj : j < 6), w.cell? ⟨b, o + j, none⟩ = some ((aggN v ls kv x y)[j]'(by obtain ⟨k, i, r, t, l, ks⟩ := v; exact hj))) : PNode S w v b o := by
  obtain ⟨k, i, r, t, l, ks⟩ := v
  simp only [PNode]
  exact ⟨hc 0 (by decide), hc 1 (by decide), ⟨ls, hc 2 (by decide), hs.1⟩, ⟨kv, hc 3 (by decide), hs.2⟩, ⟨x, hc 4 (by decide)⟩, ⟨y, hc 5 (by decide)⟩⟩

/-- What a row of nodes holds, so far: the cells of each, S what they lead to. -/
def RowN (S : Nat → Prop) (w : World) (l : List Val) (xs : List Value) : Prop :=
  xs.length = 6 * l.length ∧ ∀ j (h : j < l.length), ∃ ls kv x y, NSubs S w l[j] ls kv ∧ (xs.drop (6 * j)).take 6 = (aggN l[j] ls kv x y).toList

theorem RowN.nil (S : Nat → Prop) (w : World) : RowN S w [] [] := ⟨rfl, fun j h => by simp at h⟩

theorem RowN.step {S S' : Nat → Prop} {w w' : World} {l : List Val} {xs : List Value} (h : RowN S w l xs) (hb : ∀ k, S k → w'.heap[k]? = w.heap[k]?) (hS : ∀ k, S k → S' k) : RowN S' w' l xs := by
  refine ⟨h.1, fun j hj => ?_⟩
  obtain ⟨ls, kv, x, y, h1, h2⟩ := h.2 j hj
  exact ⟨ls, kv, x, y, h1.step hb hS, h2⟩

theorem aggN_len (v : Val) (ls kv : Value) (x y : Int) : (aggN v ls kv x y).toList.length = 6 := by
  obtain ⟨k, i, r, t, l, ks⟩ := v
  rfl

theorem RowN.snoc {S : Nat → Prop} {w : World} {l : List Val} {v : Val} {xs : List Value} {ls kv : Value} {x y : Int} (h : RowN S w l xs) (hv : NSubs S w v ls kv) : RowN S w (l ++ [v]) (xs ++ (aggN v ls kv x y).toList) := by
  have h1 := h.1
  have hl := aggN_len v ls kv x y
  refine ⟨by simp only [List.length_append, List.length_singleton, h1, hl]; omega, fun j hj => ?_⟩
  by_cases hjl : j < l.length
  · obtain ⟨ls', kv', x', y', k1, k2⟩ := h.2 j hjl
    have e : (l ++ [v])[j] = l[j] := List.getElem_append_left hjl
    rw [e]
    refine ⟨ls', kv', x', y', k1, ?_⟩
    rw [List.drop_append_of_le_length (by omega), List.take_append_of_le_length (by rw [List.length_drop]; omega)]
    exact k2
  · have hj' : j = l.length := by simp at hj; omega
    subst hj'
    have e : (l ++ [v])[l.length] = v := by simp
    rw [e]
    refine ⟨ls, kv, x, y, hv, ?_⟩
    rw [← h1, List.drop_left, List.take_of_length_le (by omega)]

/-- A row of nodes that is owned is a list of nodes. -/
theorem NodesIn.of {S : Nat → Prop} {w : World} {N : Nat} {l : List Val} {xs : List Value} {v : Value} (h : w.ownsRow N 48 6 v l.length xs) (hr : RowN S w l xs) (hS : ∀ g, v.ownBlock = some g → S g) : NodesIn S w l v := by
  rcases h.2 with ⟨rfl, h0⟩ | ⟨g, cap, cur, rfl, hg, hb, _, _, hcs, htk⟩
  · exact ⟨none, 0, by rw [h0], .inl (List.length_eq_zero_iff.1 h0)⟩
  · refine ⟨_, _, rfl, .inr ⟨g, 0, rfl, hS g rfl, ?_⟩⟩
    have hcell : ∀ m, m < 6 * l.length → w.cell? ⟨g, 0 + m, none⟩ = xs[m]? := fun m hm => by
      have h1 : w.cell? ⟨g, 0 + m, none⟩ = cur[m]? := by rw [Nat.zero_add]; simp [World.cell?, hb]
      rw [h1, ← htk, List.getElem?_take_of_lt (by omega)]
      simp
    have key : ∀ (n : Nat) (a b : List Val), l = a ++ b → b.length = n → PNodes S w b g (6 * a.length) := by
      intro n
      induction n with
      | zero =>
        intro a b e hb
        obtain rfl : b = [] := List.length_eq_zero_iff.1 hb
        simp [PNodes]
      | succ n ih =>
        intro a b e hbl
        match b, hbl with
        | z :: b, hbl =>
          simp only [PNodes]
          have hz : a.length < l.length := by rw [e]; simp
          have hzl : l[a.length] = z := by simp [e]
          obtain ⟨ls, kv, x, y, h1, h2⟩ := hr.2 a.length hz
          rw [hzl] at h1 h2
          refine ⟨PNode.of h1 (x := x) (y := y) fun j hj => ?_, ?_⟩
          · have h3 := hcell (6 * a.length + j) (by rw [e]; simp; omega)
            rw [Nat.zero_add] at h3
            rw [h3]
            have h4 : xs[6 * a.length + j]? = ((xs.drop (6 * a.length)).take 6)[j]? := by
              rw [List.getElem?_take_of_lt hj, List.getElem?_drop]
            rw [h4, h2]
            simp
          · have := ih (a ++ [z]) b (by rw [e]; simp) (by simpa using hbl)
            rw [List.length_append, List.length_singleton, show 6 * (a.length + 1) = 6 * a.length + 6 by omega] at this
            exact this
    exact key l.length [] l rfl rfl

/-- A row of texts that is owned. -/
theorem KeysIn.of {S : Nat → Prop} {w : World} {N : Nat} {ks : List ByteArray} {v : Value} (h : w.ownsRow N 9 1 v ks.length (ks.map Value.string)) (hS : ∀ g, v.ownBlock = some g → S g) : KeysIn S w ks v := by
  rcases h.2 with ⟨rfl, h0⟩ | ⟨g, cap, cur, rfl, hg, hb, _, _, hcs, htk⟩
  · exact ⟨none, 0, by rw [h0], .inl (List.length_eq_zero_iff.1 h0)⟩
  · refine ⟨_, _, rfl, .inr ⟨g, 0, rfl, hS g rfl, fun j hj => ?_⟩⟩
    have h1 : w.cell? ⟨g, 0 + j, none⟩ = cur[j]? := by rw [Nat.zero_add]; simp [World.cell?, hb]
    rw [h1]
    have h2 : (cur.toList.take (ks.length * 1))[j]? = some (.string ks[j]) := by rw [htk]; simp [hj]
    rw [List.getElem?_take_of_lt (by omega)] at h2
    simpa using h2
end Go.Proofs.YtokmkkkanphihaaGreatRDoor

/- The reference's reader: its block, and its small methods. -/
namespace Go.Proofs.YtokmkkkanphihaaGreatRDoor
open Go.RowKit Go.Sort

/-- The reader at block rb stands at place p of the text T. -/
def Rdr (w : World) (rb : Nat) (T : ByteArray) (p : Nat) : Prop := w.heap[rb]? = some (.cells #[.string T, .int .i64 p, .bool false] 75 (0, 0))

theorem Rdr.lt {w : World} {rb p : Nat} {T : ByteArray} (h : Rdr w rb T p) : rb < w.heap.size := by
  unfold Rdr at h
  rcases Nat.lt_or_ge rb w.heap.size with h' | h'
  · exact h'
  · rw [Array.getElem?_eq_none h'] at h; cases h

theorem Rdr.cells {w : World} {rb p : Nat} {T : ByteArray} (h : Rdr w rb T p) :
    w.cell? ⟨rb, 0, none⟩ = some (.string T) ∧ w.cell? ⟨rb, 1, none⟩ = some (.int .i64 p) ∧ w.cell? ⟨rb, 2, none⟩ = some (.bool false) ∧ w.frozen? ⟨rb, 1, none⟩ = false ∧ w.frozen? ⟨rb, 2, none⟩ = false := by
  unfold Rdr at h
  refine ⟨?_, ?_, ?_, ?_, ?_⟩ <;> simp [World.cell?, World.frozen?, h]

theorem Rdr.put {w : World} {rb p : Nat} {T : ByteArray} (h : Rdr w rb T p) (q : Nat) : Rdr (w.setCell ⟨rb, 1, none⟩ (.int .i64 q)) rb T q := by
  unfold Rdr at *
  simp [World.setCell, Array.getElem?_modify, h]

theorem Rdr.kept {w w' : World} {rb p : Nat} {T : ByteArray} (h : Rdr w rb T p) (hb : w'.heap[rb]? = w.heap[rb]?) : Rdr w' rb T p := hb.trans h

/-- The reader went on to q; nothing else that lay there has turned. -/
def Went (w w' : World) (rb : Nat) (T : ByteArray) (q : Nat) : Prop := Rdr w' rb T q ∧ Kp (fun k => k = rb) w w'

theorem Went.refl {w : World} {rb p : Nat} {T : ByteArray} (h : Rdr w rb T p) : Went w w rb T p := ⟨h, Kp.refl _ w⟩
theorem Went.trans {w w' w'' : World} {rb p q : Nat} {T : ByteArray} (h : Went w w' rb T p) (k : Went w' w'' rb T q) : Went w w'' rb T q := ⟨k.1, h.2.trans k.2⟩
theorem Went.drew {w w' : World} {rb p : Nat} {T : ByteArray} (h : Went w w' rb T p) : Went w w'.drew rb T p := ⟨h.1, h.2.drew⟩
theorem Went.drewN {w w' : World} {rb p : Nat} {T : ByteArray} (h : Went w w' rb T p) (n : Nat) : Went w (w'.drewN n) rb T p := ⟨h.1, h.2.drewN n⟩
theorem Went.put {w w' : World} {rb p : Nat} {T : ByteArray} (h : Went w w' rb T p) (q : Nat) : Went w (w'.setCell ⟨rb, 1, none⟩ (.int .i64 q)) rb T q := ⟨h.1.put q, h.2.setCell rb 1 _ (.inl rfl)⟩
theorem Went.alloc {w w' : World} {rb p : Nat} {T : ByteArray} (h : Went w w' rb T p) (o : Obj) : Went w (w'.alloc o) rb T p := ⟨h.1.kept (heap_alloc_old _ _ _ h.1.lt), h.2.alloc o⟩

theorem drewN_two (w : World) (a b : Nat) : ∃ n, (w.drewN a).drewN b = w.drewN n := ⟨a + b, by simp [World.drewN, Nat.add_assoc]⟩

set_option maxHeartbeats 1600000 in
set_option maxRecDepth 100000 in
theorem peek_at {w : World} {rb p : Nat} {T : ByteArray} {c : UInt8} {X : List UInt8} (h : Rdr w rb T p) (ha : At T p (c :: X)) (hT : T.size ≤ lim) :
    Calls Tryz.prog 60 #[.pointer (some ⟨rb, 0, none⟩)] w fun e w' => e = .returned (.int .u8 (c.toNat : Int)) ∧ ∃ n, w' = w.drewN n := by
  obtain ⟨c0, c1, c2, f1, f2⟩ := h.cells
  obtain ⟨hp, hc⟩ := ha.head
  have hT' : T.size ≤ 1099511627776 := hT
  have hcH := Lib.hid hc
  clear h ha hT hc
  go_enter Tryz.func60, Tryz.ntmps60
  go_wp2_with fail
  go_quiet (fail)
  go_wp2_with fail
  go_quiet (fail)
  go_wp2_with fail
  go_ret
  exact ⟨by rw [← hcH.out]; rfl, drewN_two _ _ _⟩

set_option maxHeartbeats 1600000 in
set_option maxRecDepth 100000 in
theorem peek_end {w : World} {rb p : Nat} {T : ByteArray} (h : Rdr w rb T p) (ha : At T p []) (hT : T.size ≤ lim) :
    Calls Tryz.prog 60 #[.pointer (some ⟨rb, 0, none⟩)] w fun e w' => e = .returned (.int .u8 0) ∧ ∃ n, w' = w.drewN n := by
  obtain ⟨c0, c1, c2, f1, f2⟩ := h.cells
  have hp : p = T.size := by simpa using ha.len
  have hT' : T.size ≤ 1099511627776 := hT
  clear h ha hT
  subst hp
  go_enter Tryz.func60, Tryz.ntmps60
  go_wp2_with fail
  go_quiet (fail)
  go_wp2_with fail
  go_ret
  exact ⟨rfl, _, rfl⟩

set_option maxHeartbeats 1600000 in
set_option maxRecDepth 100000 in
theorem take_yes {w : World} {rb p : Nat} {T : ByteArray} {c : UInt8} {X : List UInt8} {ci : Int} (hci : ci = (c.toNat : Int)) (h : Rdr w rb T p) (ha : At T p (c :: X)) (hT : T.size ≤ lim) :
    Calls Tryz.prog 74 #[.pointer (some ⟨rb, 0, none⟩), .int .u8 ci] w fun e w' => e = .returned (.bool true) ∧ Went w w' rb T (p + 1) := by
  obtain ⟨c0, c1, c2, f1, f2⟩ := h.cells
  obtain ⟨hp, hc⟩ := ha.head
  have hT' : T.size ≤ 1099511627776 := hT
  have hH := Lib.hid h
  subst hci
  subst hc
  have hge : decide ((T.size : Int) ≤ (p : Int)) = false := decide_eq_false (by omega)
  clear h ha hT
  go_enter Tryz.func74, Tryz.ntmps74
  go_wp2_with fail
  go_quiet (fail)
  go_wp2_with fail
  go_ret
  exact ⟨rfl, by have := ((Went.refl hH.out).drewN nq).put (p + 1); push_cast at this; exact this⟩

set_option maxHeartbeats 1600000 in
set_option maxRecDepth 100000 in
theorem take_no {w : World} {rb p : Nat} {T : ByteArray} {c d : UInt8} {X : List UInt8} {ci : Int} (hci : ci = (c.toNat : Int)) (h : Rdr w rb T p) (ha : At T p (d :: X)) (hT : T.size ≤ lim) (hd : d ≠ c) :
    Calls Tryz.prog 74 #[.pointer (some ⟨rb, 0, none⟩), .int .u8 ci] w fun e w' => e = .returned (.bool false) ∧ ∃ n, w' = w.drewN n := by
  obtain ⟨c0, c1, c2, f1, f2⟩ := h.cells
  obtain ⟨hp, hc⟩ := ha.head
  have hT' : T.size ≤ 1099511627776 := hT
  subst hci
  have hne : ¬ (T[p].toNat : Int) = (c.toNat : Int) := by
    intro e
    apply hd
    rw [← hc]
    exact UInt8.toNat_inj.1 (by omega)
  have hge : decide ((T.size : Int) ≤ (p : Int)) = false := decide_eq_false (by omega)
  have hne2 : ((T[p].toNat : Int) != (c.toNat : Int)) = true := bne_iff_ne.2 hne
  clear h ha hT hc hd hne
  go_enter Tryz.func74, Tryz.ntmps74
  go_wp2_with fail
  go_quiet (fail)
  go_wp2_with fail
  go_ret
  exact ⟨rfl, _, rfl⟩

set_option maxHeartbeats 1600000 in
set_option maxRecDepth 100000 in
theorem take_end {w : World} {rb p : Nat} {T : ByteArray} {c : Int} (h : Rdr w rb T p) (ha : At T p []) (hT : T.size ≤ lim) :
    Calls Tryz.prog 74 #[.pointer (some ⟨rb, 0, none⟩), .int .u8 c] w fun e w' => e = .returned (.bool false) ∧ ∃ n, w' = w.drewN n := by
  obtain ⟨c0, c1, c2, f1, f2⟩ := h.cells
  have hp : p = T.size := by simpa using ha.len
  have hT' : T.size ≤ 1099511627776 := hT
  clear h ha hT
  subst hp
  go_enter Tryz.func74, Tryz.ntmps74
  go_wp2_with fail
  go_quiet (fail)
  go_wp2_with fail
  go_ret
  exact ⟨rfl, _, rfl⟩

/-- What the reader sees next. -/
theorem peek_any {w : World} {rb p : Nat} {T : ByteArray} {X : List UInt8} (h : Rdr w rb T p) (ha : At T p X) (hT : T.size ≤ lim) :
    Calls Tryz.prog 60 #[.pointer (some ⟨rb, 0, none⟩)] w fun e w' => e = .returned (.int .u8 ((X.headD 0).toNat : Int)) ∧ ∃ n, w' = w.drewN n := by
  cases X with
  | nil => exact peek_end h ha hT
  | cons c X => exact peek_at h ha hT

theorem take_not {w : World} {rb p : Nat} {T : ByteArray} {c : UInt8} {X : List UInt8} {ci : Int} (hci : ci = (c.toNat : Int)) (h : Rdr w rb T p) (ha : At T p X) (hT : T.size ≤ lim) (hX : ∀ X', X ≠ c :: X') :
    Calls Tryz.prog 74 #[.pointer (some ⟨rb, 0, none⟩), .int .u8 ci] w fun e w' => e = .returned (.bool false) ∧ ∃ n, w' = w.drewN n := by
  cases X with
  | nil => exact take_end h ha hT
  | cons d X => exact take_no hci h ha hT (fun e => hX X (by rw [e]))

/-- A byte that may stand there. -/
theorem take_opt {w : World} {rb p : Nat} {T : ByteArray} {c : UInt8} {s X : List UInt8} {ci : Int} (hci : ci = (c.toNat : Int)) (h : Rdr w rb T p) (ha : At T p (s ++ X)) (hT : T.size ≤ lim) (hs : s = [] ∨ s = [c]) (hX : ∀ X', X ≠ c :: X') :
    Calls Tryz.prog 74 #[.pointer (some ⟨rb, 0, none⟩), .int .u8 ci] w fun e w' => (∃ b, e = .returned (.bool b)) ∧ Went w w' rb T (p + s.length) := by
  rcases hs with rfl | rfl
  · refine (take_not hci h ha hT hX).mono ?_
    rintro e w' ⟨rfl, n, rfl⟩
    exact ⟨⟨_, rfl⟩, (Went.refl h).drewN n⟩
  · refine (take_yes hci h ha hT).mono ?_
    rintro e w' ⟨rfl, hw⟩
    exact ⟨⟨_, rfl⟩, hw⟩

set_option maxHeartbeats 1600000 in
set_option maxRecDepth 100000 in
theorem IsBlank_no {w : World} {c : UInt8} (h : c ≠ 32 ∧ c ≠ 9 ∧ c ≠ 10 ∧ c ≠ 13) :
    Calls Tryz.prog 65 #[.int .u8 (c.toNat : Int)] w fun e w' => e = .returned (.bool false) ∧ w' = w := by
  have hn : ∀ d : UInt8, c ≠ d → ¬ (c.toNat : Int) = (d.toNat : Int) := fun d h e => h (UInt8.toNat_inj.1 (by omega))
  have h1 : ¬ (c.toNat : Int) = 32 := hn 32 h.1
  have h2 : ¬ (c.toNat : Int) = 9 := hn 9 h.2.1
  have h3 : ¬ (c.toNat : Int) = 10 := hn 10 h.2.2.1
  have h4 : ¬ (c.toNat : Int) = 13 := hn 13 h.2.2.2
  have e1 : ((c.toNat : Int) == 32) = false := beq_eq_false_iff_ne.2 h1
  have e2 : ((c.toNat : Int) == 9) = false := beq_eq_false_iff_ne.2 h2
  have e3 : ((c.toNat : Int) == 10) = false := beq_eq_false_iff_ne.2 h3
  have e4 : ((c.toNat : Int) == 13) = false := beq_eq_false_iff_ne.2 h4
  clear h hn h1 h2 h3 h4
  go_enter Tryz.func65, Tryz.ntmps65
  go_wp2_with fail
  go_ret
  exact ⟨by first | rfl | (simp [e1, e2, e3, e4]), rfl⟩

set_option maxHeartbeats 1600000 in
set_option maxRecDepth 100000 in
theorem blanks_none {w : World} {rb p : Nat} {T : ByteArray} {X : List UInt8} (h : Rdr w rb T p) (ha : At T p X) (hT : T.size ≤ lim) (hX : NoB X) :
    Calls Tryz.prog 37 #[.pointer (some ⟨rb, 0, none⟩)] w fun e w' => e = .returned (.tuple #[]) ∧ ∃ n, w' = w.drewN n := by
  obtain ⟨c0, c1, c2, f1, f2⟩ := h.cells
  have hT' : T.size ≤ 1099511627776 := hT
  cases X with
  | nil =>
    have hp : p = T.size := by simpa using ha.len
    clear h ha hT hX
    subst hp
    go_enter Tryz.func37, Tryz.ntmps37
    go_wp2_with fail
    refine wp_loop_rounds 1 ?_
    rw [rounds_succ]
    go_wp2_with fail
    go_quiet (fail)
    go_wp2_with fail
    go_end0
    exact ⟨rfl, _, rfl⟩
  | cons c X =>
    obtain ⟨hp, hc⟩ := ha.head
    have hb := hX c X rfl
    subst hc
    have hlt' : decide ((p : Int) < (T.size : Int)) = true := decide_eq_true (by omega)
    clear h ha hT hX
    have hbH := Lib.hid hb
    clear hb
    go_enter Tryz.func37, Tryz.ntmps37
    go_wp2_with fail
    refine wp_loop_rounds 1 ?_
    rw [rounds_succ]
    go_wp2_with fail
    go_quiet ((go_at_call 65; exact Calls.quiet_of_same (IsBlank_no hbH.out)))
    go_wp2_with fail
    go_end0
    exact ⟨rfl, _, rfl⟩
end Go.Proofs.YtokmkkkanphihaaGreatRDoor

/- The reference's reader: digits, numbers, words. -/
namespace Go.Proofs.YtokmkkkanphihaaGreatRDoor
open Go.RowKit Go.Sort

theorem At.nth {T : ByteArray} {p : Nat} {X Y : List UInt8} (h : At T p (X ++ Y)) {q : Nat} (h1 : p ≤ q) (h2 : q < p + X.length) : At T q (X[q - p]'(by omega) :: (X.drop (q - p + 1) ++ Y)) := by
  have e : X = X.take (q - p) ++ X[q - p]'(by omega) :: X.drop (q - p + 1) := by
    rw [← List.drop_eq_getElem_cons, List.take_append_drop]
  have h3 : At T p (X.take (q - p) ++ (X[q - p]'(by omega) :: (X.drop (q - p + 1) ++ Y))) := by
    have h5 : At T p ((X.take (q - p) ++ X[q - p]'(by omega) :: X.drop (q - p + 1)) ++ Y) := by rw [← e]; exact h
    rw [List.append_assoc, List.cons_append] at h5
    exact h5
  have h4 := h3.skip
  rw [List.length_take, Nat.min_eq_left (by omega), show p + (q - p) = q by omega] at h4
  exact h4

theorem NoD.head {Y : List UInt8} (h : NoD Y) : ¬ isD (Y.headD 0) := by
  cases Y with
  | nil => unfold isD; decide
  | cons c Y => exact h c Y rfl

set_option maxHeartbeats 1600000 in
set_option maxRecDepth 100000 in
theorem digits_any {w : World} {rb p : Nat} {T : ByteArray} {ds Y : List UInt8} (h : Rdr w rb T p) (ha : At T p (ds ++ Y)) (hT : T.size ≤ lim) (hd : Digs ds) (hY : NoD Y) :
    Calls Tryz.prog 76 #[.pointer (some ⟨rb, 0, none⟩)] w fun e w' => e = .returned (.bool (decide (0 < ds.length))) ∧ Went w w' rb T (p + ds.length) := by
  obtain ⟨c0, c1, c2, f1, f2⟩ := h.cells
  have hT' : T.size ≤ 1099511627776 := hT
  have hlen : p + ds.length ≤ T.size := by have := ha.len; simp at this; omega
  have haH := Lib.hid ha
  have hH := Lib.hid h
  have hdH := Lib.hid hd
  have hYH := Lib.hid hY
  clear h ha hd hY
  go_enter Tryz.func76, Tryz.ntmps76
  go_wp2_with fail
  go_loopg [] (ds.length) (fun k wr => ∃ q : Nat, p ≤ q ∧ q ≤ p + ds.length ∧ k = p + ds.length - q ∧ Hid (Went w wr rb T q))
  case atStart => exact ⟨p, Nat.le_refl _, by omega, by omega, Lib.hid (Went.refl hH.out)⟩
  case round =>
    obtain ⟨q, hq1, hq2, hk, hw⟩ := hrel
    have hR := Lib.hid hw.out.1
    obtain ⟨d0, d1, d2, g1, g2⟩ := hR.out.cells
    by_cases hlt : q < p + ds.length
    · have haq := Lib.hid (haH.out.nth hq1 hlt)
      have hdq : Hid (isD (ds[q - p]'(by omega))) := Lib.hid (hdH.out _ (List.getElem_mem _))
      go_wp2_with (first
        | (go_at_call 60; refine (peek_at hR.out haq.out hT).mono ?_; rintro e w2 ⟨rfl, n2, rfl⟩)
        | (go_at_call 67; refine (isDigit_yes rfl hdq.out).mono ?_; rintro e w3 ⟨rfl, rfl⟩))
      go_roundg (p + ds.length - (q + 1))
      case measure => omega
      case rel => exact ⟨q + 1, by omega, by omega, rfl, Lib.hid (by have := (hw.out.drewN n2).put (q + 1); push_cast at this; exact this)⟩
    · have hqe : q = p + ds.length := by omega
      have haq : Hid (At T q Y) := Lib.hid (by rw [hqe]; exact haH.out.skip)
      obtain ⟨y0, hy0⟩ : ∃ y0, Y.headD 0 = y0 := ⟨_, rfl⟩
      have hz : Hid (¬ isD y0) := Lib.hid (by rw [← hy0]; exact hYH.out.head)
      have hpk : Calls Tryz.prog 60 #[.pointer (some ⟨rb, 0, none⟩)] wr fun e w' => e = .returned (.int .u8 (y0.toNat : Int)) ∧ ∃ n, w' = wr.drewN n := by rw [← hy0]; exact peek_any hR.out haq.out hT
      have hpkH := Lib.hid hpk
      clear hpk hy0
      go_wp2_with (first
        | (go_at_call 60; refine hpkH.out.mono ?_; rintro e w2 ⟨rfl, n2, rfl⟩)
        | (go_at_call 67; refine (isDigit_no rfl hz.out).mono ?_; rintro e w3 ⟨rfl, rfl⟩))
      go_ret
      exact ⟨congrArg (fun b => Ending.returned (.bool b)) (by simp; omega), by rw [← hqe]; exact hw.out.drewN n2⟩

theorem Digs.cons {d : UInt8} {ds : List UInt8} (h : isD d) (k : Digs ds) : Digs (d :: ds) := fun c hc => by
  rcases List.mem_cons.1 hc with rfl | hc
  · exact h
  · exact k c hc

theorem sgn_opt (neg : Bool) : sgn neg = [] ∨ sgn neg = [45] := by cases neg <;> simp [sgn]

theorem IntTxt.no45 {ip : List UInt8} (h : IntTxt ip) (X : List UInt8) : ∀ X', ip ++ X ≠ 45 :: X' := by
  intro X' e
  rcases h with rfl | ⟨d, ds, rfl, h1, _, _⟩
  · cases e
  · rw [List.cons_append] at e
    obtain ⟨rfl, _⟩ := List.cons.inj e
    exact absurd h1 (by unfold isD; decide)

theorem Stop.no {Y : List UInt8} (h : Stop Y) {c : UInt8} (hc : c ≠ 44 ∧ c ≠ 93 ∧ c ≠ 125) : ∀ X', Y ≠ c :: X' := by
  intro X' e
  rcases h c X' e with rfl | rfl | rfl
  · exact hc.1 rfl
  · exact hc.2.1 rfl
  · exact hc.2.2 rfl

theorem cutAt {T : ByteArray} {p n : Nat} {X Y : List UInt8} (h : At T p (X ++ Y)) (hn : n = p + X.length) : T.extract p n = ⟨X.toArray⟩ := by rw [hn]; exact h.cut

set_option maxHeartbeats 1600000 in
set_option maxRecDepth 100000 in
theorem number_z {w : World} {rb p : Nat} {T : ByteArray} {Y : List UInt8} {neg : Bool} {tx : List UInt8} (htx : tx = sgn neg ++ ([48] ++ [])) (h : Rdr w rb T p) (ha : At T p (sgn neg ++ ([48] ++ ([] ++ Y)))) (hT : T.size ≤ lim) (hY : Stop Y) :
    Calls Tryz.prog 64 #[.pointer (some ⟨rb, 0, none⟩)] w fun ev w' => ev = .returned (.string ⟨tx.toArray⟩) ∧ Went w w' rb T (p + tx.length) := by
  obtain ⟨c0, c1, c2, f1, f2⟩ := h.cells
  have hT' : T.size ≤ 1099511627776 := hT
  have hTH := Lib.hid hT
  have hlen := ha.len
  have hIp : Hid (IntTxt [48]) := Lib.hid (.inl rfl)
  have hcut := fun n (hn : n = _) => Lib.hid (cutAt (X := sgn neg ++ ([48] ++ [])) (Y := Y) (n := n) (by simpa using ha) hn)
  have hsl := sgn_len neg
  obtain ⟨p1, hp1⟩ : ∃ p1, p1 = p + (sgn neg).length := ⟨_, rfl⟩
  have ha1 : At T p1 ([48] ++ ([] ++ Y)) := hp1 ▸ ha.skip
  obtain ⟨p2, hp2⟩ : ∃ p2, p2 = p1 + [48].length := ⟨_, rfl⟩
  have ha2 : At T p2 ([] ++ Y) := hp2 ▸ ha1.skip
  have hp3l : p2 ≤ T.size := ha2.1
  have hcutp := htx ▸ hcut p2 (by rw [hp2, hp1]; simp; omega)
  have hpp : p2 = p + tx.length := by rw [htx, hp2, hp1]; simp; omega
  have hppH := Lib.hid hpp
  have hle : p ≤ p2 := by omega
  have hH := Lib.hid h
  have hYH := Lib.hid hY
  have haH := Lib.hid ha
  have ha1H := Lib.hid ha1
  have ha2H := Lib.hid ha2
  have hp1H := Lib.hid hp1
  have hp2H := Lib.hid hp2
  clear h htx hY ha ha1 ha2 hp1 hp2 hpp hcut hlen
  go_enter Tryz.func64, Tryz.ntmps64
  go_wp2_with (first
    | (go_at_call_of 74 (Value.int .u8 45); refine (take_opt (c := 45) rfl hH.out haH.out hTH.out (sgn_opt neg) (hIp.out.no45 _)).mono ?_; rintro ev w1 ⟨⟨b1, rfl⟩, hw1⟩; rw [← hp1H.out] at hw1; have hw1H := Lib.hid hw1; obtain ⟨k10, k11, k12, g11, g12⟩ := hw1.1.cells; clear hw1 hH)
    | (go_at_call_of 74 (Value.int .u8 48); refine (take_yes (c := 48) rfl hw1H.out.1 ha1H.out hTH.out).mono ?_; rintro ev w2 ⟨rfl, hw2⟩; have hw2 : Went w1 w2 rb T p2 := (by rw [hp2H.out]; exact hw2); have hw2H := Lib.hid (hw1H.out.trans hw2); obtain ⟨k20, k21, k22, g21, g22⟩ := hw2.1.cells; clear hw2 hw1H)
    | (go_at_call_of 74 (Value.int .u8 46); refine (take_not (c := 46) rfl hw2H.out.1 ha2H.out hTH.out (hYH.out.no (by decide))).mono ?_; rintro ev w4 ⟨rfl, n4, rfl⟩; have hw2H := hw2H.out.drewN n4; (try rw [World.drewN_drewN] at hw2H); have hw2H := Lib.hid hw2H)
    | (go_at_call_of 74 (Value.int .u8 101); refine (take_not (c := 101) rfl hw2H.out.1 ha2H.out hTH.out (hYH.out.no (by decide))).mono ?_; rintro ev w6 ⟨rfl, n6, rfl⟩; have hw2H := hw2H.out.drewN n6; (try rw [World.drewN_drewN] at hw2H); have hw2H := Lib.hid hw2H)
    | (go_at_call_of 74 (Value.int .u8 69); refine (take_not (c := 69) rfl hw2H.out.1 ha2H.out hTH.out (hYH.out.no (by decide))).mono ?_; rintro ev w7 ⟨rfl, n7, rfl⟩; have hw2H := hw2H.out.drewN n7; (try rw [World.drewN_drewN] at hw2H); have hw2H := Lib.hid hw2H))
  go_quiet (fail)
  go_wp2_with fail
  go_ret
  exact ⟨by rw [← hcutp.out]; rfl, by rw [← hppH.out]; first | exact hw2H.out.drewN nq | (have := hw2H.out.drewN nq; rw [World.drewN_drewN] at this; exact this)⟩

set_option maxHeartbeats 1600000 in
set_option maxRecDepth 100000 in
theorem number_d {w : World} {rb p : Nat} {T : ByteArray} {d : UInt8} {ds : List UInt8} {Y : List UInt8} {neg : Bool} {tx : List UInt8} (htx : tx = sgn neg ++ ((d :: ds) ++ [])) (h : Rdr w rb T p) (ha : At T p (sgn neg ++ ((d :: ds) ++ ([] ++ Y)))) (hT : T.size ≤ lim) (hY : Stop Y) (hdd : isD d) (hd0 : d ≠ 48) (hds : Digs ds) :
    Calls Tryz.prog 64 #[.pointer (some ⟨rb, 0, none⟩)] w fun ev w' => ev = .returned (.string ⟨tx.toArray⟩) ∧ Went w w' rb T (p + tx.length) := by
  obtain ⟨c0, c1, c2, f1, f2⟩ := h.cells
  have hT' : T.size ≤ 1099511627776 := hT
  have hTH := Lib.hid hT
  have hlen := ha.len
  have hIp : Hid (IntTxt (d :: ds)) := Lib.hid (.inr ⟨d, ds, rfl, hdd, hd0, hds⟩)
  have hcut := fun n (hn : n = _) => Lib.hid (cutAt (X := sgn neg ++ ((d :: ds) ++ [])) (Y := Y) (n := n) (by simpa using ha) hn)
  have hsl := sgn_len neg
  obtain ⟨p1, hp1⟩ : ∃ p1, p1 = p + (sgn neg).length := ⟨_, rfl⟩
  have ha1 : At T p1 ((d :: ds) ++ ([] ++ Y)) := hp1 ▸ ha.skip
  obtain ⟨p2, hp2⟩ : ∃ p2, p2 = p1 + (d :: ds).length := ⟨_, rfl⟩
  have ha2 : At T p2 ([] ++ Y) := hp2 ▸ ha1.skip
  have hDd : Hid (Digs (d :: ds)) := Lib.hid (Digs.cons hdd hds)
  have hN2 : Hid (NoD ([] ++ Y)) := Lib.hid (hY.noD)
  have hd0H := Lib.hid hd0
  clear hdd hds hd0
  have hp3l : p2 ≤ T.size := ha2.1
  have hcutp := htx ▸ hcut p2 (by rw [hp2, hp1]; simp; omega)
  have hpp : p2 = p + tx.length := by rw [htx, hp2, hp1]; simp; omega
  have hppH := Lib.hid hpp
  have hle : p ≤ p2 := by omega
  have hH := Lib.hid h
  have hYH := Lib.hid hY
  have haH := Lib.hid ha
  have ha1H := Lib.hid ha1
  have ha2H := Lib.hid ha2
  have hp1H := Lib.hid hp1
  have hp2H := Lib.hid hp2
  clear h htx hY ha ha1 ha2 hp1 hp2 hpp hcut hlen
  go_enter Tryz.func64, Tryz.ntmps64
  go_wp2_with (first
    | (go_at_call_of 74 (Value.int .u8 45); refine (take_opt (c := 45) rfl hH.out haH.out hTH.out (sgn_opt neg) (hIp.out.no45 _)).mono ?_; rintro ev w1 ⟨⟨b1, rfl⟩, hw1⟩; rw [← hp1H.out] at hw1; have hw1H := Lib.hid hw1; obtain ⟨k10, k11, k12, g11, g12⟩ := hw1.1.cells; clear hw1 hH)
    | (go_at_call_of 74 (Value.int .u8 48); refine (take_no (c := 48) (d := d) rfl hw1H.out.1 ha1H.out hTH.out hd0H.out).mono ?_; rintro ev w2 ⟨rfl, n2, rfl⟩; have hw1H := hw1H.out.drewN n2; (try rw [World.drewN_drewN] at hw1H); have hw1H := Lib.hid hw1H)
    | (go_at_call 76; refine (digits_any (ds := d :: ds) hw1H.out.1 ha1H.out hTH.out hDd.out hN2.out).mono ?_; rintro ev w3 ⟨rfl, hw2⟩; rw [← hp2H.out] at hw2; have hw2H := Lib.hid (hw1H.out.trans hw2); obtain ⟨k20, k21, k22, g21, g22⟩ := hw2.1.cells; clear hw2 hw1H)
    | (go_at_call_of 74 (Value.int .u8 46); refine (take_not (c := 46) rfl hw2H.out.1 ha2H.out hTH.out (hYH.out.no (by decide))).mono ?_; rintro ev w4 ⟨rfl, n4, rfl⟩; have hw2H := hw2H.out.drewN n4; (try rw [World.drewN_drewN] at hw2H); have hw2H := Lib.hid hw2H)
    | (go_at_call_of 74 (Value.int .u8 101); refine (take_not (c := 101) rfl hw2H.out.1 ha2H.out hTH.out (hYH.out.no (by decide))).mono ?_; rintro ev w6 ⟨rfl, n6, rfl⟩; have hw2H := hw2H.out.drewN n6; (try rw [World.drewN_drewN] at hw2H); have hw2H := Lib.hid hw2H)
    | (go_at_call_of 74 (Value.int .u8 69); refine (take_not (c := 69) rfl hw2H.out.1 ha2H.out hTH.out (hYH.out.no (by decide))).mono ?_; rintro ev w7 ⟨rfl, n7, rfl⟩; have hw2H := hw2H.out.drewN n7; (try rw [World.drewN_drewN] at hw2H); have hw2H := Lib.hid hw2H))
  go_quiet (fail)
  go_wp2_with fail
  go_ret
  exact ⟨by rw [← hcutp.out]; rfl, by rw [← hppH.out]; first | exact hw2H.out.drewN nq | (have := hw2H.out.drewN nq; rw [World.drewN_drewN] at this; exact this)⟩

set_option maxHeartbeats 1600000 in
set_option maxRecDepth 100000 in
theorem number_zf {w : World} {rb p : Nat} {T : ByteArray} {e : UInt8} {es : List UInt8} {Y : List UInt8} {neg : Bool} {tx : List UInt8} (htx : tx = sgn neg ++ ([48] ++ (46 :: e :: es))) (h : Rdr w rb T p) (ha : At T p (sgn neg ++ ([48] ++ ((46 :: e :: es) ++ Y)))) (hT : T.size ≤ lim) (hY : Stop Y) (hee : isD e) (hes : Digs es) :
    Calls Tryz.prog 64 #[.pointer (some ⟨rb, 0, none⟩)] w fun ev w' => ev = .returned (.string ⟨tx.toArray⟩) ∧ Went w w' rb T (p + tx.length) := by
  obtain ⟨c0, c1, c2, f1, f2⟩ := h.cells
  have hT' : T.size ≤ 1099511627776 := hT
  have hTH := Lib.hid hT
  have hlen := ha.len
  have hIp : Hid (IntTxt [48]) := Lib.hid (.inl rfl)
  have hcut := fun n (hn : n = _) => Lib.hid (cutAt (X := sgn neg ++ ([48] ++ (46 :: e :: es))) (Y := Y) (n := n) (by simpa using ha) hn)
  have hsl := sgn_len neg
  obtain ⟨p1, hp1⟩ : ∃ p1, p1 = p + (sgn neg).length := ⟨_, rfl⟩
  have ha1 : At T p1 ([48] ++ ((46 :: e :: es) ++ Y)) := hp1 ▸ ha.skip
  obtain ⟨p2, hp2⟩ : ∃ p2, p2 = p1 + [48].length := ⟨_, rfl⟩
  have ha2 : At T p2 ((46 :: e :: es) ++ Y) := hp2 ▸ ha1.skip
  obtain ⟨p3, hp3⟩ : ∃ p3, p3 = p2 + (46 :: e :: es).length := ⟨_, rfl⟩
  have ha3 : At T p3 Y := hp3 ▸ ha2.skip
  have ha2' : At T (p2 + 1) ((e :: es) ++ Y) := At.tail (c := 46) ha2
  have hDe : Hid (Digs (e :: es)) := Lib.hid (Digs.cons hee hes)
  have hpe : p2 + 1 + (e :: es).length = p3 := by rw [hp3]; simp; omega
  have hpeH := Lib.hid hpe
  have ha2H' := Lib.hid ha2'
  clear hpe ha2' hee hes
  have hp3l : p3 ≤ T.size := ha3.1
  have hcutp := htx ▸ hcut p3 (by rw [hp3, hp2, hp1]; simp; omega)
  have hpp : p3 = p + tx.length := by rw [htx, hp3, hp2, hp1]; simp; omega
  have hppH := Lib.hid hpp
  have hle : p ≤ p3 := by omega
  have hH := Lib.hid h
  have hYH := Lib.hid hY
  have haH := Lib.hid ha
  have ha1H := Lib.hid ha1
  have ha2H := Lib.hid ha2
  have ha3H := Lib.hid ha3
  have hp1H := Lib.hid hp1
  have hp2H := Lib.hid hp2
  have hp3H := Lib.hid hp3
  clear h htx hY ha ha1 ha2 ha3 hp1 hp2 hp3 hpp hcut hlen
  go_enter Tryz.func64, Tryz.ntmps64
  go_wp2_with (first
    | (go_at_call_of 74 (Value.int .u8 45); refine (take_opt (c := 45) rfl hH.out haH.out hTH.out (sgn_opt neg) (hIp.out.no45 _)).mono ?_; rintro ev w1 ⟨⟨b1, rfl⟩, hw1⟩; rw [← hp1H.out] at hw1; have hw1H := Lib.hid hw1; obtain ⟨k10, k11, k12, g11, g12⟩ := hw1.1.cells; clear hw1 hH)
    | (go_at_call_of 74 (Value.int .u8 48); refine (take_yes (c := 48) rfl hw1H.out.1 ha1H.out hTH.out).mono ?_; rintro ev w2 ⟨rfl, hw2⟩; have hw2 : Went w1 w2 rb T p2 := (by rw [hp2H.out]; exact hw2); have hw2H := Lib.hid (hw1H.out.trans hw2); obtain ⟨k20, k21, k22, g21, g22⟩ := hw2.1.cells; clear hw2 hw1H)
    | (go_at_call_of 74 (Value.int .u8 46); refine (take_yes (c := 46) rfl hw2H.out.1 ha2H.out hTH.out).mono ?_; rintro ev w4 ⟨rfl, hw3⟩; have hw3H := Lib.hid (hw2H.out.trans hw3); clear hw3 hw2H)
    | (go_at_call 76; refine (digits_any (ds := e :: es) hw3H.out.1 ha2H'.out hTH.out hDe.out hYH.out.noD).mono ?_; rintro ev w5 ⟨rfl, hw4⟩; rw [hpeH.out] at hw4; have hw5H := Lib.hid (hw3H.out.trans hw4); obtain ⟨k50, k51, k52, g51, g52⟩ := hw4.1.cells; clear hw4 hw3H)
    | (go_at_call_of 74 (Value.int .u8 101); refine (take_not (c := 101) rfl hw5H.out.1 ha3H.out hTH.out (hYH.out.no (by decide))).mono ?_; rintro ev w6 ⟨rfl, n6, rfl⟩; have hw5H := hw5H.out.drewN n6; (try rw [World.drewN_drewN] at hw5H); have hw5H := Lib.hid hw5H)
    | (go_at_call_of 74 (Value.int .u8 69); refine (take_not (c := 69) rfl hw5H.out.1 ha3H.out hTH.out (hYH.out.no (by decide))).mono ?_; rintro ev w7 ⟨rfl, n7, rfl⟩; have hw5H := hw5H.out.drewN n7; (try rw [World.drewN_drewN] at hw5H); have hw5H := Lib.hid hw5H))
  go_quiet (fail)
  go_wp2_with fail
  go_ret
  exact ⟨by rw [← hcutp.out]; rfl, by rw [← hppH.out]; first | exact hw5H.out.drewN nq | (have := hw5H.out.drewN nq; rw [World.drewN_drewN] at this; exact this)⟩

set_option maxHeartbeats 1600000 in
set_option maxRecDepth 100000 in
theorem number_df {w : World} {rb p : Nat} {T : ByteArray} {d : UInt8} {ds : List UInt8} {e : UInt8} {es : List UInt8} {Y : List UInt8} {neg : Bool} {tx : List UInt8} (htx : tx = sgn neg ++ ((d :: ds) ++ (46 :: e :: es))) (h : Rdr w rb T p) (ha : At T p (sgn neg ++ ((d :: ds) ++ ((46 :: e :: es) ++ Y)))) (hT : T.size ≤ lim) (hY : Stop Y) (hdd : isD d) (hd0 : d ≠ 48) (hds : Digs ds) (hee : isD e) (hes : Digs es) :
    Calls Tryz.prog 64 #[.pointer (some ⟨rb, 0, none⟩)] w fun ev w' => ev = .returned (.string ⟨tx.toArray⟩) ∧ Went w w' rb T (p + tx.length) := by
  obtain ⟨c0, c1, c2, f1, f2⟩ := h.cells
  have hT' : T.size ≤ 1099511627776 := hT
  have hTH := Lib.hid hT
  have hlen := ha.len
  have hIp : Hid (IntTxt (d :: ds)) := Lib.hid (.inr ⟨d, ds, rfl, hdd, hd0, hds⟩)
  have hcut := fun n (hn : n = _) => Lib.hid (cutAt (X := sgn neg ++ ((d :: ds) ++ (46 :: e :: es))) (Y := Y) (n := n) (by simpa using ha) hn)
  have hsl := sgn_len neg
  obtain ⟨p1, hp1⟩ : ∃ p1, p1 = p + (sgn neg).length := ⟨_, rfl⟩
  have ha1 : At T p1 ((d :: ds) ++ ((46 :: e :: es) ++ Y)) := hp1 ▸ ha.skip
  obtain ⟨p2, hp2⟩ : ∃ p2, p2 = p1 + (d :: ds).length := ⟨_, rfl⟩
  have ha2 : At T p2 ((46 :: e :: es) ++ Y) := hp2 ▸ ha1.skip
  obtain ⟨p3, hp3⟩ : ∃ p3, p3 = p2 + (46 :: e :: es).length := ⟨_, rfl⟩
  have ha3 : At T p3 Y := hp3 ▸ ha2.skip
  have ha2' : At T (p2 + 1) ((e :: es) ++ Y) := At.tail (c := 46) ha2
  have hDe : Hid (Digs (e :: es)) := Lib.hid (Digs.cons hee hes)
  have hpe : p2 + 1 + (e :: es).length = p3 := by rw [hp3]; simp; omega
  have hpeH := Lib.hid hpe
  have ha2H' := Lib.hid ha2'
  clear hpe ha2' hee hes
  have hDd : Hid (Digs (d :: ds)) := Lib.hid (Digs.cons hdd hds)
  have hN2 : Hid (NoD ((46 :: e :: es) ++ Y)) := Lib.hid (by intro c X ee; rw [List.cons_append] at ee; obtain ⟨rfl, _⟩ := List.cons.inj ee; unfold isD; decide)
  have hd0H := Lib.hid hd0
  clear hdd hds hd0
  have hp3l : p3 ≤ T.size := ha3.1
  have hcutp := htx ▸ hcut p3 (by rw [hp3, hp2, hp1]; simp; omega)
  have hpp : p3 = p + tx.length := by rw [htx, hp3, hp2, hp1]; simp; omega
  have hppH := Lib.hid hpp
  have hle : p ≤ p3 := by omega
  have hH := Lib.hid h
  have hYH := Lib.hid hY
  have haH := Lib.hid ha
  have ha1H := Lib.hid ha1
  have ha2H := Lib.hid ha2
  have ha3H := Lib.hid ha3
  have hp1H := Lib.hid hp1
  have hp2H := Lib.hid hp2
  have hp3H := Lib.hid hp3
  clear h htx hY ha ha1 ha2 ha3 hp1 hp2 hp3 hpp hcut hlen
  go_enter Tryz.func64, Tryz.ntmps64
  go_wp2_with (first
    | (go_at_call_of 74 (Value.int .u8 45); refine (take_opt (c := 45) rfl hH.out haH.out hTH.out (sgn_opt neg) (hIp.out.no45 _)).mono ?_; rintro ev w1 ⟨⟨b1, rfl⟩, hw1⟩; rw [← hp1H.out] at hw1; have hw1H := Lib.hid hw1; obtain ⟨k10, k11, k12, g11, g12⟩ := hw1.1.cells; clear hw1 hH)
    | (go_at_call_of 74 (Value.int .u8 48); refine (take_no (c := 48) (d := d) rfl hw1H.out.1 ha1H.out hTH.out hd0H.out).mono ?_; rintro ev w2 ⟨rfl, n2, rfl⟩; have hw1H := hw1H.out.drewN n2; (try rw [World.drewN_drewN] at hw1H); have hw1H := Lib.hid hw1H)
    | (go_at_call 76; refine (digits_any (ds := d :: ds) hw1H.out.1 ha1H.out hTH.out hDd.out hN2.out).mono ?_; rintro ev w3 ⟨rfl, hw2⟩; rw [← hp2H.out] at hw2; have hw2H := Lib.hid (hw1H.out.trans hw2); obtain ⟨k20, k21, k22, g21, g22⟩ := hw2.1.cells; clear hw2 hw1H)
    | (go_at_call_of 74 (Value.int .u8 46); refine (take_yes (c := 46) rfl hw2H.out.1 ha2H.out hTH.out).mono ?_; rintro ev w4 ⟨rfl, hw3⟩; have hw3H := Lib.hid (hw2H.out.trans hw3); clear hw3 hw2H)
    | (go_at_call 76; refine (digits_any (ds := e :: es) hw3H.out.1 ha2H'.out hTH.out hDe.out hYH.out.noD).mono ?_; rintro ev w5 ⟨rfl, hw4⟩; rw [hpeH.out] at hw4; have hw5H := Lib.hid (hw3H.out.trans hw4); obtain ⟨k50, k51, k52, g51, g52⟩ := hw4.1.cells; clear hw4 hw3H)
    | (go_at_call_of 74 (Value.int .u8 101); refine (take_not (c := 101) rfl hw5H.out.1 ha3H.out hTH.out (hYH.out.no (by decide))).mono ?_; rintro ev w6 ⟨rfl, n6, rfl⟩; have hw5H := hw5H.out.drewN n6; (try rw [World.drewN_drewN] at hw5H); have hw5H := Lib.hid hw5H)
    | (go_at_call_of 74 (Value.int .u8 69); refine (take_not (c := 69) rfl hw5H.out.1 ha3H.out hTH.out (hYH.out.no (by decide))).mono ?_; rintro ev w7 ⟨rfl, n7, rfl⟩; have hw5H := hw5H.out.drewN n7; (try rw [World.drewN_drewN] at hw5H); have hw5H := Lib.hid hw5H))
  go_quiet (fail)
  go_wp2_with fail
  go_ret
  exact ⟨by rw [← hcutp.out]; rfl, by rw [← hppH.out]; first | exact hw5H.out.drewN nq | (have := hw5H.out.drewN nq; rw [World.drewN_drewN] at this; exact this)⟩

/-- A number is read as it stands. -/
theorem number_any {w : World} {rb p : Nat} {T : ByteArray} {t Y : List UInt8} (h : Rdr w rb T p) (ha : At T p (t ++ Y)) (hT : T.size ≤ lim) (hY : Stop Y) (ht : NumTxt t) :
    Calls Tryz.prog 64 #[.pointer (some ⟨rb, 0, none⟩)] w fun ev w' => ev = .returned (.string ⟨t.toArray⟩) ∧ Went w w' rb T (p + t.length) := by
  obtain ⟨neg, ip, fr, rfl, hi, hf⟩ := ht
  rcases hi with rfl | ⟨d, ds, rfl, h1, h2, h3⟩
  · rcases hf with rfl | ⟨e, es, rfl, h4, h5⟩
    · exact number_z rfl h (by simpa using ha) hT hY
    · exact number_zf rfl h (by simpa using ha) hT hY h4 h5
  · rcases hf with rfl | ⟨e, es, rfl, h4, h5⟩
    · exact number_d rfl h (by simpa using ha) hT hY h1 h2 h3
    · exact number_df rfl h (by simpa using ha) hT hY h1 h2 h3 h4 h5
end Go.Proofs.YtokmkkkanphihaaGreatRDoor

/- The reference's reader: words, hexadecimal digits, escapes, texts in quotation marks. -/
namespace Go.Proofs.YtokmkkkanphihaaGreatRDoor
open Go.RowKit Go.Sort

set_option maxHeartbeats 1600000 in
set_option maxRecDepth 100000 in
theorem word_any {w : World} {rb p : Nat} {T W : ByteArray} {Y : List UInt8} (h : Rdr w rb T p) (ha : At T p (W.data.toList ++ Y)) (hT : T.size ≤ lim) :
    Calls Tryz.prog 61 #[.pointer (some ⟨rb, 0, none⟩), .string W] w fun e w' => e = .returned (.string W) ∧ Went w w' rb T (p + W.size) := by
  have hWl : W.data.toList.length = W.size := rfl
  have hlen : p + W.size ≤ T.size := by have := ha.len; simp only [List.length_append, hWl] at this; omega
  have hT' : T.size ≤ 1099511627776 := hT
  have haH := Lib.hid ha
  have hH := Lib.hid h
  clear h ha
  go_enter Tryz.func61, Tryz.ntmps61
  go_wp2_with fail
  go_loopg [8] (W.size) (fun k i wr => ∃ j : Nat, j ≤ W.size ∧ k = W.size - j ∧ i = .int .i64 j ∧ Hid (Went w wr rb T (p + j)))
  case atStart => exact ⟨0, Nat.zero_le _, rfl, rfl, Lib.hid (Went.refl hH.out)⟩
  case round =>
    obtain ⟨j, hj, hk, rfl, hw⟩ := hrel
    by_cases hlt : j < W.size
    · have haq : Hid (At T (p + j) (W[j] :: (W.data.toList.drop (j + 1) ++ Y))) := Lib.hid (by
        have h1 := haH.out.nth (q := p + j) (by omega) (by rw [hWl]; omega)
        simp only [Nat.add_sub_cancel_left] at h1
        exact h1)
      go_wp2_with (go_at_call 74; refine (take_yes (c := W[j]) rfl hw.out.1 haq.out hT).mono ?_; rintro e w2 ⟨rfl, hw2⟩; have hw2H := Lib.hid (hw.out.trans hw2); clear hw2)
      go_roundg (W.size - (j + 1))
      case measure => omega
      case rel => exact ⟨j + 1, by omega, rfl, by go_num, Lib.hid (by rw [← Nat.add_assoc]; exact hw2H.out)⟩
    · have hje : j = W.size := by omega
      subst hje
      go_wp2_with fail
      go_ret
      exact ⟨rfl, hw.out⟩

/-- The number of four hexadecimal digits. -/
def hexN (l : List Nat) : Nat := l.foldl (fun a d => a * 16 + d) 0
theorem hexN_snoc (l : List Nat) (d : Nat) : hexN (l ++ [d]) = hexN l * 16 + d := by simp [hexN]
theorem hexN_lt : ∀ (n : Nat) (l : List Nat), l.length ≤ n → (∀ d ∈ l, d < 16) → hexN l < 16 ^ l.length := by
  intro n
  induction n with
  | zero =>
    intro l hl _
    obtain rfl : l = [] := List.length_eq_zero_iff.1 (by omega)
    decide
  | succ n ih =>
    intro l hl h
    rcases List.eq_nil_or_concat l with rfl | ⟨a, z, rfl⟩
    · decide
    · rw [List.concat_eq_append] at *
      rw [hexN_snoc, List.length_append, List.length_singleton, Nat.pow_succ]
      have h1 := ih a (by simp at hl; omega) fun d hd => h d (by simp [hd])
      have h2 := h z (by simp)
      omega

theorem hexD_small : ∀ x : Fin 10, (hexD x.val).toNat = 48 + x.val := by decide
theorem hexD_big : ∀ x : Fin 16, 10 ≤ x.val → (hexD x.val).toNat = 87 + x.val := by decide

set_option maxHeartbeats 1600000 in
set_option maxRecDepth 100000 in
theorem hex_any {w : World} {rb p : Nat} {T : ByteArray} {hs : List Nat} {Y : List UInt8} (h : Rdr w rb T p) (ha : At T p (hs.map hexD ++ Y)) (hT : T.size ≤ lim) (h4 : hs.length = 4) (h16 : ∀ d ∈ hs, d < 16) :
    Calls Tryz.prog 80 #[.pointer (some ⟨rb, 0, none⟩)] w fun e w' => e = .returned (.int .i64 (hexN hs : Nat)) ∧ Went w w' rb T (p + 4) := by
  have hlen : p + 4 ≤ T.size := by have := ha.len; simp only [List.length_append, List.length_map, h4] at this; omega
  have hT' : T.size ≤ 1099511627776 := hT
  have haH := Lib.hid ha
  have hH := Lib.hid h
  have h16H := Lib.hid h16
  have h4H := Lib.hid h4
  clear h ha h16 h4
  go_enter Tryz.func80, Tryz.ntmps80
  go_wp2_with fail
  go_loopg [3, 5] 4 (fun k n i wr => ∃ j : Nat, j ≤ 4 ∧ k = 4 - j ∧ i = .int .i64 j ∧ n = .int .i64 (hexN (hs.take j) : Nat) ∧ Hid (Went w wr rb T (p + j)))
  case atStart => exact ⟨0, Nat.zero_le _, rfl, rfl, rfl, Lib.hid (Went.refl hH.out)⟩
  case round =>
    obtain ⟨j, hj, hk, rfl, rfl, hw⟩ := hrel
    have hnlt : hexN (hs.take j) < 65536 := by
      have h1 := hexN_lt _ (hs.take j) (Nat.le_refl _) fun d hd => h16H.out d (List.mem_of_mem_take hd)
      have h2 : (hs.take j).length ≤ 4 := by rw [List.length_take]; omega
      exact Nat.lt_of_lt_of_le h1 (Nat.le_trans (Nat.pow_le_pow_right (by decide) h2) (by decide))
    by_cases hlt : j < 4
    · have hjl : j < hs.length := by rw [h4H.out]; exact hlt
      obtain ⟨x, hx⟩ : ∃ x, hs[j] = x := ⟨_, rfl⟩
      have hx16 : x < 16 := by rw [← hx]; exact h16H.out _ (List.getElem_mem _)
      have haq : Hid (At T (p + j) (hexD x :: ((hs.map hexD).drop (j + 1) ++ Y))) := Lib.hid (by
        have h1 := haH.out.nth (q := p + j) (by omega) (by rw [List.length_map]; omega)
        simp only [Nat.add_sub_cancel_left, List.getElem_map, hx] at h1
        exact h1)
      have hnext : hexN (hs.take (j + 1)) = hexN (hs.take j) * 16 + x := by
        rw [List.take_succ_eq_append_getElem hjl, hexN_snoc, hx]
      have hnextH := Lib.hid hnext
      have hnlt2 : hexN (hs.take j) < 4096 := by
        have h1 := hexN_lt _ (hs.take j) (Nat.le_refl _) fun d hd => h16H.out d (List.mem_of_mem_take hd)
        have h2 : (hs.take j).length ≤ 3 := by rw [List.length_take]; omega
        exact Nat.lt_of_lt_of_le h1 (Nat.le_trans (Nat.pow_le_pow_right (by decide) h2) (by decide))
      have hR := Lib.hid hw.out.1
      obtain ⟨d0, d1, d2, g1, g2⟩ := hR.out.cells
      clear hnext hx
      generalize hexN (hs.take j) = nn at *
      by_cases hx10 : x < 10
      · have hc : (hexD x).toNat = 48 + x := hexD_small ⟨x, hx10⟩
        have hdy : Hid (isD (hexD x)) := Lib.hid (by unfold isD; omega)
        have hci : (48 : Int) + (x : Int) = ((hexD x).toNat : Int) := by omega
        have hpk : Calls Tryz.prog 60 #[.pointer (some ⟨rb, 0, none⟩)] wr fun e w' => e = .returned (.int .u8 (48 + (x : Int))) ∧ ∃ n, w' = wr.drewN n := by rw [hci]; exact peek_any hR.out haq.out hT
        have hpkH := Lib.hid hpk
        have hciH := Lib.hid hci
        clear hpk hci hc
        go_wp2_with (first
          | (go_at_call 60; refine hpkH.out.mono ?_; rintro e w2 ⟨rfl, n2, rfl⟩)
          | (go_at_call 67; refine (isDigit_yes hciH.out hdy.out).mono ?_; rintro e w3 ⟨rfl, rfl⟩))
        go_roundg (4 - (j + 1))
        case measure => omega
        case rel => exact ⟨j + 1, by omega, rfl, by go_num, by rw [hnextH.out]; go_num, Lib.hid (by have := (hw.out.drewN n2).put (p + j + 1); push_cast at this; rw [Nat.add_assoc] at this; exact this)⟩
      · have hc : (hexD x).toNat = 87 + x := hexD_big ⟨x, hx16⟩ (by simpa using hx10)
        have hdn : Hid (¬ isD (hexD x)) := Lib.hid (by unfold isD; omega)
        have hci : (87 : Int) + (x : Int) = ((hexD x).toNat : Int) := by omega
        have hpk : Calls Tryz.prog 60 #[.pointer (some ⟨rb, 0, none⟩)] wr fun e w' => e = .returned (.int .u8 (87 + (x : Int))) ∧ ∃ n, w' = wr.drewN n := by rw [hci]; exact peek_any hR.out haq.out hT
        have hpkH := Lib.hid hpk
        have hciH := Lib.hid hci
        clear hpk hci hc
        go_wp2_with (first
          | (go_at_call 60; refine hpkH.out.mono ?_; rintro e w2 ⟨rfl, n2, rfl⟩)
          | (go_at_call 67; refine (isDigit_no hciH.out hdn.out).mono ?_; rintro e w3 ⟨rfl, rfl⟩))
        go_roundg (4 - (j + 1))
        case measure => omega
        case rel => exact ⟨j + 1, by omega, rfl, by go_num, by rw [hnextH.out]; go_num, Lib.hid (by have := (hw.out.drewN n2).put (p + j + 1); push_cast at this; rw [Nat.add_assoc] at this; exact this)⟩
    · have hje : j = 4 := by omega
      subst hje
      go_wp2_with fail
      go_ret
      exact ⟨by rw [show hexN hs = hexN (hs.take 4) by rw [List.take_of_length_le (by rw [h4H.out]; exact Nat.le_refl _)]]; rfl, hw.out⟩
end Go.Proofs.YtokmkkkanphihaaGreatRDoor
