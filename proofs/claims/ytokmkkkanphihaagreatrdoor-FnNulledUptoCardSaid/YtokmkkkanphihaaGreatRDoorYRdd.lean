/- While the parts of a list or an object are read: what lies where. -/
import Derived.Test.YtokmkkkanphihaaGreatRDoorYRdc
import Derived.Deep.RegionLaw
namespace Go.Proofs.YtokmkkkanphihaaGreatRDoor
open Go.RowKit Go.Sort

/-- N: what lay ahead of the parts. cur: what the node holds as its list; row: the row of nodes, xs and tail; dn: nodes that have been read and are not in the row yet. -/
structure Mid (w0 w : World) (rb nb : Nat) (T : ByteArray) (q : Nat) (kd x : Int) (cur row kv : Value) (l : List Val) (ks : List ByteArray) (m : Nat) (xs tail : List Value) (dn : List (Val × Value × Value)) (S : Nat → Prop) : Prop where
  rdr : Rdr w rb T q
  blk : w.heap[nb]? = some (.cells #[.int .i64 kd, .string ⟨#[]⟩, cur, kv, .int .i64 x, .int .i64 0] 48 (0, 0))
  kp : Kp (fun k => k = rb ∨ k = nb) w0 w
  rows : w.ownsRow w0.heap.size 48 6 row m (xs ++ tail)
  nodes : RowN S w l xs
  keys : w.ownsRow w0.heap.size 9 1 kv ks.length (ks.map Value.string)
  inS : ∀ k, S k → w0.heap.size ≤ k ∧ k < w.heap.size
  nrow : ∀ g, row.ownBlock = some g → ¬ S g
  nkey : ∀ g, kv.ownBlock = some g → ¬ S g
  done : ∀ z ls kz, (z, ls, kz) ∈ dn → NSubs S w z ls kz
  low : rb < w0.heap.size ∧ nb < w0.heap.size ∧ rb ≠ nb

section
variable {w0 w : World} {rb nb : Nat} {T : ByteArray} {q : Nat} {kd x : Int} {cur row kv : Value} {l : List Val} {ks : List ByteArray} {m : Nat} {xs tail : List Value} {dn : List (Val × Value × Value)} {S : Nat → Prop}

theorem Mid.start (h : Rdr w0 rb T q) (hb : w0.heap[nb]? = some (.cells #[.int .i64 kd, .string ⟨#[]⟩, .slice none 0 0, .slice none 0 0, .int .i64 x, .int .i64 0] 48 (0, 0))) (hne : nb ≠ rb) :
    Mid w0 w0 rb nb T q kd x (.slice none 0 0) (.slice none 0 0) (.slice none 0 0) [] [] 0 [] [] [] (fun _ => False) where
  rdr := h
  blk := hb
  kp := Kp.refl _ _
  rows := World.ownsRow_nil _ _ _ _
  nodes := RowN.nil _ _
  keys := World.ownsRow_nil _ _ _ _
  inS := fun k hk => hk.elim
  nrow := fun g _ hk => hk
  nkey := fun g _ hk => hk
  done := fun z ls kz hm => by simp at hm
  low := ⟨h.lt, (Array.getElem?_eq_some_iff.1 hb).1, Ne.symm hne⟩

/-- An owned row, where its block stays as it is. -/
theorem own_stay {w w' : World} {N : Nat} {e : TypeId} {sz n : Nat} {v : Value} {ys : List Value} (h : w.ownsRow N e sz v n ys) (hb : ∀ g, v.ownBlock = some g → w'.heap[g]? = w.heap[g]?) : w'.ownsRow N e sz v n ys := by
  refine ⟨h.1, ?_⟩
  rcases h.2 with a | ⟨g, cap, cu, b1, b2, b3, b4⟩
  · exact .inl a
  · exact .inr ⟨g, cap, cu, b1, b2, (hb g (by rw [b1]; rfl)).trans b3, b4⟩

theorem tyN : ¬ (48 = 9) := by decide

/-- The row of nodes and that of keys are two. -/
theorem Mid.apart (h : Mid w0 w rb nb T q kd x cur row kv l ks m xs tail dn S) : ∀ g, row.ownBlock = some g → kv.ownBlock ≠ some g := by
  intro g hr hk
  rcases h.rows.2 with ⟨a, _⟩ | ⟨g1, cap1, cu1, a1, _, a3, _⟩
  · rw [a] at hr; cases hr
  · rcases h.keys.2 with ⟨b, _⟩ | ⟨g2, cap2, cu2, b1, _, b3, _⟩
    · rw [b] at hk; cases hk
    · rw [a1] at hr
      rw [b1] at hk
      obtain rfl : g1 = g := by simpa [Value.ownBlock] using hr
      obtain rfl : g2 = g1 := by simpa [Value.ownBlock] using hk
      rw [a3] at b3
      have := Option.some.inj b3
      injection this with _ e _
      exact tyN e

/-- A step that turns the reader's block alone, of what lay there. -/
theorem Mid.went {w2 : World} {q2 : Nat} (h : Mid w0 w rb nb T q kd x cur row kv l ks m xs tail dn S) (hw : Went w w2 rb T q2) : Mid w0 w2 rb nb T q2 kd x cur row kv l ks m xs tail dn S := by
  obtain ⟨l1, l2, l3⟩ := h.low
  have hs := h.kp.size
  have hsame : ∀ k, k < w.heap.size → k ≠ rb → w2.heap[k]? = w.heap[k]? := fun k hk hne => hw.2.block k hk hne
  have hown : ∀ g, w0.heap.size ≤ g → g < w.heap.size → w2.heap[g]? = w.heap[g]? := fun g h1 h2 => hsame g h2 (by omega)
  have hSs : ∀ k, S k → w2.heap[k]? = w.heap[k]? := fun k hk => hown k (h.inS k hk).1 (h.inS k hk).2
  exact {
    rdr := hw.1
    blk := (hsame nb (by omega) (Ne.symm l3)).trans h.blk
    kp := h.kp.trans (hw.2.mono fun k _ hk => .inl hk)
    rows := own_stay h.rows fun g hg => hown g (h.rows.lt g hg).1 (h.rows.lt g hg).2
    nodes := h.nodes.step hSs fun _ hk => hk
    keys := own_stay h.keys fun g hg => hown g (h.keys.lt g hg).1 (h.keys.lt g hg).2
    inS := fun k hk => ⟨(h.inS k hk).1, by have := hw.2.size; have := (h.inS k hk).2; omega⟩
    nrow := h.nrow
    nkey := h.nkey
    done := fun z ls kz hm => (h.done z ls kz hm).step hSs fun _ hk => hk
    low := h.low }

theorem Mid.drewN (h : Mid w0 w rb nb T q kd x cur row kv l ks m xs tail dn S) (n : Nat) : Mid w0 (w.drewN n) rb nb T q kd x cur row kv l ks m xs tail dn S := h.went ((Went.refl h.rdr).drewN n)

theorem Mid.drew (h : Mid w0 w rb nb T q kd x cur row kv l ks m xs tail dn S) : Mid w0 w.drew rb nb T q kd x cur row kv l ks m xs tail dn S := h.went ((Went.refl h.rdr).drew)

theorem Mid.alloc (h : Mid w0 w rb nb T q kd x cur row kv l ks m xs tail dn S) (o : Obj) : Mid w0 (w.alloc o) rb nb T q kd x cur row kv l ks m xs tail dn S := h.went ((Went.refl h.rdr).alloc o)

/-- A value has been read. -/
theorem Mid.read {w2 : World} {q2 : Nat} {z : Val} {ls kz : Value} {S2 : Nat → Prop} (h : Mid w0 w rb nb T q kd x cur row kv l ks m xs tail dn S) (hw : Went w w2 rb T q2) (hz : NSubs S2 w2 z ls kz) (hS2 : ∀ k, S2 k → w.heap.size ≤ k ∧ k < w2.heap.size) :
    Mid w0 w2 rb nb T q2 kd x cur row kv l ks m xs tail ((z, ls, kz) :: dn) (fun k => S k ∨ S2 k) := by
  have h2 := h.went hw
  have hs := h.kp.size
  exact {
    rdr := h2.rdr
    blk := h2.blk
    kp := h2.kp
    rows := h2.rows
    nodes := h2.nodes.step (fun _ _ => rfl) fun _ hk => .inl hk
    keys := h2.keys
    inS := fun k hk => by
      rcases hk with hk | hk
      · exact h2.inS k hk
      · have := hS2 k hk; exact ⟨by omega, this.2⟩
    nrow := fun g hg hk => by
      rcases hk with hk | hk
      · exact h.nrow g hg hk
      · have := (h.rows.lt g hg).2; have := (hS2 g hk).1; omega
    nkey := fun g hg hk => by
      rcases hk with hk | hk
      · exact h.nkey g hg hk
      · have := (h.keys.lt g hg).2; have := (hS2 g hk).1; omega
    done := fun z' ls' kz' hm => by
      rcases List.mem_cons.1 hm with hm | hm
      · cases hm
        exact hz.step (fun _ _ => rfl) fun _ hk => .inr hk
      · exact (h2.done z' ls' kz' hm).step (fun _ _ => rfl) fun _ hk => .inl hk
    low := h.low }

/-- The row of nodes has grown. -/
theorem Mid.grow {w1 : World} {g cap : Nat} {zs : List Value} (h : Mid w0 w rb nb T q kd x cur row kv l ks m xs [] dn S)
    (hown : w1.ownsRow w0.heap.size 48 6 (.slice (some ⟨g, 0, none⟩) (m + 1) cap) (m + 1) (xs ++ [] ++ zs)) (hg : w.grownBy w1 row.ownBlock) (hat : row.ownBlock = some g ∨ w.heap.size ≤ g) :
    Mid w0 w1 rb nb T q kd x cur (.slice (some ⟨g, 0, none⟩) (m + 1) cap) kv l ks (m + 1) xs zs dn S := by
  obtain ⟨l1, l2, l3⟩ := h.low
  have hs := h.kp.size
  have hsame : ∀ k, k < w.heap.size → some k ≠ row.ownBlock → w1.heap[k]? = w.heap[k]? := fun k hk hne => hg.block k hk hne
  have hlow : ∀ k, k < w0.heap.size → some k ≠ row.ownBlock := fun k hk e => by have := (h.rows.lt k e.symm).1; omega
  have hSs : ∀ k, S k → w1.heap[k]? = w.heap[k]? := fun k hk => hsame k (h.inS k hk).2 fun e => h.nrow k e.symm hk
  have hsz : w.heap.size ≤ w1.heap.size := hg.size
  exact {
    rdr := h.rdr.kept (hsame rb (by omega) (hlow rb l1))
    blk := (hsame nb (by omega) (hlow nb l2)).trans h.blk
    kp := ⟨hg.os.trans h.kp.os, hg.tape.trans h.kp.tape, hg.output.trans h.kp.output, by omega, fun k hk hx => (hsame k (by omega) (hlow k hk)).trans (h.kp.block k hk hx)⟩
    rows := by simpa using hown
    nodes := h.nodes.step hSs fun _ hk => hk
    keys := own_stay h.keys fun g2 hg2 => hsame g2 (h.keys.lt g2 hg2).2 fun e => h.apart g2 e.symm hg2
    inS := fun k hk => ⟨(h.inS k hk).1, by have := (h.inS k hk).2; omega⟩
    nrow := fun g2 hg2 hk => by
      have e : g = g2 := by simpa [Value.ownBlock] using hg2
      subst e
      rcases hat with ha | ha
      · exact h.nrow g ha hk
      · have := (h.inS g hk).2; omega
    nkey := h.nkey
    done := fun z ls kz hm => (h.done z ls kz hm).step hSs fun _ hk => hk
    low := h.low }

theorem set2 {W : World} {b : Nat} {t : TypeId} {u0 u1 u2 u3 u4 u5 v : Value} (h : W.heap[b]? = some (.cells #[u0, u1, u2, u3, u4, u5] t (0, 0))) :
    (W.setCell ⟨b, 2, none⟩ v).heap[b]? = some (.cells #[u0, u1, v, u3, u4, u5] t (0, 0)) := by
  simp [World.setCell, Array.getElem?_modify, h]
theorem set3 {W : World} {b : Nat} {t : TypeId} {u0 u1 u2 u3 u4 u5 v : Value} (h : W.heap[b]? = some (.cells #[u0, u1, u2, u3, u4, u5] t (0, 0))) :
    (W.setCell ⟨b, 3, none⟩ v).heap[b]? = some (.cells #[u0, u1, u2, v, u4, u5] t (0, 0)) := by
  simp [World.setCell, Array.getElem?_modify, h]

/-- The node's list is stored. -/
theorem Mid.setCur (h : Mid w0 w rb nb T q kd x cur row kv l ks m xs tail dn S) (v : Value) : Mid w0 (w.setCell ⟨nb, 2, none⟩ v) rb nb T q kd x v row kv l ks m xs tail dn S := by
  obtain ⟨l1, l2, l3⟩ := h.low
  have hs := h.kp.size
  have hown : ∀ g, w0.heap.size ≤ g → (w.setCell ⟨nb, 2, none⟩ v).heap[g]? = w.heap[g]? := fun g h1 => same_set (by omega)
  have hSs : ∀ k, S k → (w.setCell ⟨nb, 2, none⟩ v).heap[k]? = w.heap[k]? := fun k hk => hown k (h.inS k hk).1
  exact {
    rdr := h.rdr.kept (same_set l3)
    blk := set2 h.blk
    kp := h.kp.setCell _ _ _ (.inl (.inr rfl))
    rows := own_stay h.rows fun g hg => hown g (h.rows.lt g hg).1
    nodes := h.nodes.step hSs fun _ hk => hk
    keys := own_stay h.keys fun g hg => hown g (h.keys.lt g hg).1
    inS := fun k hk => by simpa [World.setCell] using h.inS k hk
    nrow := h.nrow
    nkey := h.nkey
    done := fun z ls kz hm => (h.done z ls kz hm).step hSs fun _ hk => hk
    low := h.low }

/-- Six cells of a row are stored. -/
theorem own_fill {W : World} {N g n cap o : Nat} {t : TypeId} {ys : List Value} {u0 u1 u2 u3 u4 u5 v0 v1 v2 v3 v4 v5 : Value} (hy : ys.length = o) (hn : o + 6 = n * 6)
    (h : W.ownsRow N t 6 (.slice (some ⟨g, 0, none⟩) n cap) n (ys ++ [u0, u1, u2, u3, u4, u5])) :
    ((((((W.setCell ⟨g, o, none⟩ v0).setCell ⟨g, o + 1, none⟩ v1).setCell ⟨g, o + 2, none⟩ v2).setCell ⟨g, o + 3, none⟩ v3).setCell ⟨g, o + 4, none⟩ v4).setCell ⟨g, o + 5, none⟩ v5).ownsRow N t 6 (.slice (some ⟨g, 0, none⟩) n cap) n (ys ++ [v0, v1, v2, v3, v4, v5]) := by
  obtain ⟨h1, h2⟩ := h
  refine ⟨by simp [hy]; omega, .inr ?_⟩
  rcases h2 with ⟨a, _⟩ | ⟨g1, cap1, cu, a1, a2, a3, a4, a5, a6, a7⟩
  · cases a
  · obtain ⟨rfl, rfl⟩ : g1 = g ∧ cap1 = cap := by
      injection a1 with e1 _ e2
      injection e1 with e1
      injection e1 with e1
      exact ⟨e1.symm, e2.symm⟩
    refine ⟨g1, cap1, (((((cu.setIfInBounds o v0).setIfInBounds (o + 1) v1).setIfInBounds (o + 2) v2).setIfInBounds (o + 3) v3).setIfInBounds (o + 4) v4).setIfInBounds (o + 5) v5, rfl, a2, ?_, a4, a5, by simp [a6], ?_⟩
    · have hlt : g1 < W.heap.size := (Array.getElem?_eq_some_iff.1 a3).1
      simp [World.setCell, Array.getElem?_modify, a3]
    · have hcs : o + 6 ≤ cu.size := by rw [a6, hn]; exact Nat.mul_le_mul_right 6 a4
      simp only [Array.toList_setIfInBounds]
      apply List.ext_getElem?
      intro i
      have h7 : ∀ i : Nat, (cu.toList.take (n * 6))[i]? = (ys ++ [u0, u1, u2, u3, u4, u5])[i]? := fun i => by rw [a7]
      simp only [List.getElem?_take] at h7 ⊢
      by_cases hi : i < n * 6
      · rw [if_pos hi]
        have h8 := h7 i
        rw [if_pos hi] at h8
        simp only [List.getElem?_set, List.length_set, Array.length_toList]
        by_cases hio : i < o
        · rw [List.getElem?_append_left (by omega)] at h8 ⊢
          rw [if_neg (by omega), if_neg (by omega), if_neg (by omega), if_neg (by omega), if_neg (by omega), if_neg (by omega)]
          exact h8
        · rw [List.getElem?_append_right (by omega), hy]
          obtain ⟨k, rfl⟩ : ∃ k, i = o + k := ⟨i - o, by omega⟩
          rw [Nat.add_sub_cancel_left]
          have hk : k < 6 := by omega
          rcases k with _ | _ | _ | _ | _ | _ | k
          · simp; omega
          · simp; omega
          · simp; omega
          · simp; omega
          · simp; omega
          · simp; omega
          · omega
      · rw [if_neg hi, List.getElem?_eq_none (by simp [hy]; omega)]

/-- The last six cells of a row. -/
theorem own_tail {W : World} {N g n cap o : Nat} {t : TypeId} {ys : List Value} {u0 u1 u2 u3 u4 u5 : Value} (hy : ys.length = o)
    (h : W.ownsRow N t 6 (.slice (some ⟨g, 0, none⟩) n cap) n (ys ++ [u0, u1, u2, u3, u4, u5])) :
    (W.cell? ⟨g, o, none⟩ = some u0 ∧ W.cell? ⟨g, o + 1, none⟩ = some u1 ∧ W.cell? ⟨g, o + 2, none⟩ = some u2 ∧ W.cell? ⟨g, o + 3, none⟩ = some u3 ∧ W.cell? ⟨g, o + 4, none⟩ = some u4 ∧ W.cell? ⟨g, o + 5, none⟩ = some u5) ∧ ∀ k, W.frozen? ⟨g, k, none⟩ = false := by
  obtain ⟨h1, h2⟩ := h
  rcases h2 with ⟨a, _⟩ | ⟨g1, cap1, cu, a1, a2, a3, a4, a5, a6, a7⟩
  · cases a
  · obtain ⟨rfl, rfl⟩ : g1 = g ∧ cap1 = cap := by
      injection a1 with e1 _ e2
      injection e1 with e1
      injection e1 with e1
      exact ⟨e1.symm, e2.symm⟩
    have hc : ∀ k, k < 6 → W.cell? ⟨g1, o + k, none⟩ = [u0, u1, u2, u3, u4, u5][k]? := fun k hk => by
      have e1 : W.cell? ⟨g1, o + k, none⟩ = cu[o + k]? := by simp [World.cell?, a3]
      have e2 : (cu.toList.take (n * 6))[o + k]? = (ys ++ [u0, u1, u2, u3, u4, u5])[o + k]? := by rw [a7]
      have h3 : o + 6 = n * 6 := by rw [← h1]; simp [hy]
      rw [List.getElem?_take_of_lt (by omega), List.getElem?_append_right (by omega), hy, Nat.add_sub_cancel_left] at e2
      rw [e1, ← e2]
      simp
    exact ⟨⟨hc 0 (by decide), hc 1 (by decide), hc 2 (by decide), hc 3 (by decide), hc 4 (by decide), hc 5 (by decide)⟩, fun k => by simp [World.frozen?, a3]⟩

/-- The node is stored into the row. -/
theorem Mid.fill {g cap n o : Nat} {u0 u1 u2 u3 u4 u5 v0 v1 v2 v3 v4 v5 : Value} (h : Mid w0 w rb nb T q kd x cur (.slice (some ⟨g, 0, none⟩) n cap) kv l ks n xs [u0, u1, u2, u3, u4, u5] dn S) (ho : o = 6 * l.length) (hn : o + 6 = n * 6) :
    Mid w0 ((((((w.setCell ⟨g, o, none⟩ v0).setCell ⟨g, o + 1, none⟩ v1).setCell ⟨g, o + 2, none⟩ v2).setCell ⟨g, o + 3, none⟩ v3).setCell ⟨g, o + 4, none⟩ v4).setCell ⟨g, o + 5, none⟩ v5) rb nb T q kd x cur (.slice (some ⟨g, 0, none⟩) n cap) kv l ks n xs [v0, v1, v2, v3, v4, v5] dn S := by
  obtain ⟨l1, l2, l3⟩ := h.low
  have hs := h.kp.size
  have hg := h.rows.lt g rfl
  have hother : ∀ k, k ≠ g → ((((((w.setCell ⟨g, o, none⟩ v0).setCell ⟨g, o + 1, none⟩ v1).setCell ⟨g, o + 2, none⟩ v2).setCell ⟨g, o + 3, none⟩ v3).setCell ⟨g, o + 4, none⟩ v4).setCell ⟨g, o + 5, none⟩ v5).heap[k]? = w.heap[k]? := fun k hk =>
    (same_set hk).trans ((same_set hk).trans ((same_set hk).trans ((same_set hk).trans ((same_set hk).trans (same_set hk)))))
  have hSs : ∀ k, S k → _ = w.heap[k]? := fun k hk => hother k (by rintro rfl; exact h.nrow k rfl hk)
  have hf : w0.heap.size ≤ g := hg.1
  exact {
    rdr := h.rdr.kept (hother rb (by omega))
    blk := (hother nb (by omega)).trans h.blk
    kp := (((((h.kp.setCell _ _ _ (.inr hf)).setCell _ _ _ (.inr hf)).setCell _ _ _ (.inr hf)).setCell _ _ _ (.inr hf)).setCell _ _ _ (.inr hf)).setCell _ _ _ (.inr hf)
    rows := own_fill (by rw [h.nodes.1, ho]) hn h.rows
    nodes := h.nodes.step hSs fun _ hk => hk
    keys := own_stay h.keys fun g2 hg2 => hother g2 (by rintro rfl; exact h.apart _ rfl hg2)
    inS := fun k hk => by simpa [World.setCell] using h.inS k hk
    nrow := h.nrow
    nkey := h.nkey
    done := fun z ls kz hm => (h.done z ls kz hm).step hSs fun _ hk => hk
    low := h.low }

/-- A value more has been read, and all is stored. -/
theorem Mid.close {z : Val} {ls kz : Value} {a b : Int} (ht : tail = (aggN z ls kz a b).toList) (h : Mid w0 w rb nb T q kd x cur row kv l ks m xs tail ((z, ls, kz) :: dn) S) : Mid w0 w rb nb T q kd x cur row kv (l ++ [z]) ks m (xs ++ tail) [] [] S where
  rdr := h.rdr
  blk := h.blk
  kp := h.kp
  rows := by rw [List.append_nil]; exact h.rows
  nodes := by rw [ht]; exact h.nodes.snoc (h.done z ls kz (by simp))
  keys := h.keys
  inS := h.inS
  nrow := h.nrow
  nkey := h.nkey
  done := fun z ls kz hm => by simp at hm
  low := h.low

/-- A key has been read and stored. -/
theorem Mid.key {w1 : World} {g cap n : Nat} {key : ByteArray} (hn : ks.length = n) (h : Mid w0 w rb nb T q kd x cur row kv l ks m xs tail dn S)
    (hown : w1.ownsRow w0.heap.size 9 1 (.slice (some ⟨g, 0, none⟩) (n + 1) cap) (n + 1) (ks.map Value.string ++ [.string key])) (hg : w.grownBy w1 kv.ownBlock) (hat : kv.ownBlock = some g ∨ w.heap.size ≤ g) :
    Mid w0 (w1.setCell ⟨nb, 3, none⟩ (.slice (some ⟨g, 0, none⟩) (n + 1) cap)) rb nb T q kd x cur row (.slice (some ⟨g, 0, none⟩) (n + 1) cap) l (ks ++ [key]) m xs tail dn S := by
  subst hn
  obtain ⟨l1, l2, l3⟩ := h.low
  have hs := h.kp.size
  have hsame : ∀ k, k < w.heap.size → some k ≠ kv.ownBlock → w1.heap[k]? = w.heap[k]? := fun k hk hne => hg.block k hk hne
  have hlow : ∀ k, k < w0.heap.size → some k ≠ kv.ownBlock := fun k hk e => by have := (h.keys.lt k e.symm).1; omega
  have hsz : w.heap.size ≤ w1.heap.size := hg.size
  have hown2 : ∀ k, w0.heap.size ≤ k → (w1.setCell ⟨nb, 3, none⟩ (.slice (some ⟨g, 0, none⟩) (ks.length + 1) cap)).heap[k]? = w1.heap[k]? := fun k h1 => same_set (by omega)
  have hSs : ∀ k, S k → (w1.setCell ⟨nb, 3, none⟩ (.slice (some ⟨g, 0, none⟩) (ks.length + 1) cap)).heap[k]? = w.heap[k]? := fun k hk => (hown2 k (h.inS k hk).1).trans (hsame k (h.inS k hk).2 fun e => h.nkey k e.symm hk)
  exact {
    rdr := (h.rdr.kept (hsame rb (by omega) (hlow rb l1))).kept (same_set l3)
    blk := set3 ((hsame nb (by omega) (hlow nb l2)).trans h.blk)
    kp := Kp.setCell (w' := w1) ⟨hg.os.trans h.kp.os, hg.tape.trans h.kp.tape, hg.output.trans h.kp.output, by omega, fun k hk hx => (hsame k (by omega) (hlow k hk)).trans (h.kp.block k hk hx)⟩ _ _ _ (.inl (.inr rfl))
    rows := own_stay h.rows fun g2 hg2 => (hown2 g2 (h.rows.lt g2 hg2).1).trans (hsame g2 (h.rows.lt g2 hg2).2 fun e => h.apart g2 hg2 e.symm)
    nodes := h.nodes.step hSs fun _ hk => hk
    keys := by
      rw [List.length_append, List.length_singleton, List.map_append]
      refine own_stay hown fun g2 hg2 => hown2 g2 (hown.lt g2 hg2).1
    inS := fun k hk => ⟨(h.inS k hk).1, by have := (h.inS k hk).2; simp [World.setCell]; omega⟩
    nrow := h.nrow
    nkey := fun g2 hg2 hk => by
      have e : g = g2 := by simpa [Value.ownBlock] using hg2
      subst e
      rcases hat with ha | ha
      · exact h.nkey g ha hk
      · have := (h.inS g hk).2; omega
    done := fun z ls kz hm => (h.done z ls kz hm).step hSs fun _ hk => hk
    low := h.low }

theorem Mid.nbLt (h : Mid w0 w rb nb T q kd x cur row kv l ks m xs tail dn S) : nb < w.heap.size := Nat.lt_of_lt_of_le h.low.2.1 h.kp.size
theorem Mid.nbKey (h : Mid w0 w rb nb T q kd x cur row kv l ks m xs tail dn S) : some nb ≠ kv.ownBlock := fun e => by
  have := (h.keys.lt nb e.symm).1
  have := h.low.2.1
  omega
theorem own_len {w : World} {N n m : Nat} {e : TypeId} {sz : Nat} {v : Value} {ys : List Value} (hn : n = m) (h : w.ownsRow N e sz v n ys) : w.ownsRow N e sz v m ys := hn ▸ h

/-- What the parts leave. -/
theorem Mid.out (h : Mid w0 w rb nb T q kd x row row kv l ks l.length xs [] [] S) : POut w0 rb nb T q kd x l ks w := by
  obtain ⟨l1, l2, l3⟩ := h.low
  have hr : w.ownsRow w0.heap.size 48 6 row l.length xs := by have := h.rows; rw [List.append_nil] at this; exact this
  refine ⟨row, kv, fun k => S k ∨ row.ownBlock = some k ∨ kv.ownBlock = some k, h.blk, NodesIn.of hr (h.nodes.step (fun _ _ => rfl) fun _ hk => .inl hk) (fun g hg => .inr (.inl hg)), KeysIn.of h.keys (fun g hg => .inr (.inr hg)), fun k hk => ?_, h.rdr, h.kp⟩
  rcases hk with hk | hk | hk
  · exact h.inS k hk
  · exact h.rows.lt k hk
  · exact h.keys.lt k hk

end
end Go.Proofs.YtokmkkkanphihaaGreatRDoor

/- The reference's reader: the parts of a list (written by genRdP.py). -/
namespace Go.Proofs.YtokmkkkanphihaaGreatRDoor
open Go.RowKit Go.Sort

abbrev zeroN : List Value := [.int .i64 0, .string ⟨#[]⟩, .slice none 0 0, .slice none 0 0, .int .i64 0, .int .i64 0]
theorem info_node : (Tryz.prog.info? 48).map (fun i => (i.zero, i.size, i.bytes)) = some (some (.agg #[.int .i64 0, .string ⟨#[]⟩, .slice none 0 0, .slice none 0 0, .int .i64 0, .int .i64 0]), 6, 88) := by kernel_rfl
theorem zero_one : ∀ u ∈ zeroN, u.oneCell' = true := by
  intro u hu
  simp [zeroN] at hu
  rcases hu with rfl | rfl | rfl | rfl <;> rfl

theorem cells_alloc {w : World} {b : Nat} {cs : Array Value} {t : TypeId} {fr : Nat × Nat} (h : w.heap[b]? = some (.cells cs t fr)) (o : Obj) (j : Nat) : (w.alloc o).cell? ⟨b, j, none⟩ = cs[j]? :=
  cells_of ((heap_alloc_old w o b (Array.getElem?_eq_some_iff.1 h).1).trans h) j

/-- What the reader makes of a value z that is a part. -/
def Reads (rb : Nat) (T : ByteArray) (di : Int) (z : Val) (q : Nat) : Prop :=
  ∀ W, Rdr W rb T q → Calls Tryz.prog 36 #[.pointer (some ⟨rb, 0, none⟩), .int .i64 di] W (VOut W rb T (q + (valT z).length) z)

set_option maxHeartbeats 3200000 in
set_option maxRecDepth 100000 in
theorem parts_list {w0 : World} {rb nb p d : Nat} {T : ByteArray} {x : Int} {l : List Val} {Y : List UInt8} (h : Rdr w0 rb T p) (hne : nb ≠ rb)
    (hb : w0.heap[nb]? = some (.cells #[.int .i64 6, .string ⟨#[]⟩, .slice none 0 0, .slice none 0 0, .int .i64 x, .int .i64 0] 48 (0, 0)))
    (ha : At T p (listT l true ++ 93 :: Y)) (hT : T.size ≤ lim) (hd : 0 < d) (hd12 : d ≤ 12) (hlb : l.length ≤ lim) (hl : l ≠ [])
    (hst : ∀ z ∈ l, ∃ c X k, valT z = c :: X ∧ Starts k c)
    (hval : ∀ j (hj : j < l.length) q Y', At T q (valT l[j] ++ Y') → Stop Y' → Reads rb T ((d : Int) - 1) l[j] q) :
    Calls Tryz.prog 63 #[.pointer (some ⟨rb, 0, none⟩), .pointer (some ⟨nb, 0, none⟩), .int .u8 93, .int .i64 d] w0 fun e w' => e = .returned (.tuple #[]) ∧ POut w0 rb nb T (p + (listT l true).length + 1) 6 x l [] w' := by
  obtain ⟨c0, c1, c2, f1, f2⟩ := h.cells
  obtain ⟨i0, hi, hz0, hz1, hz2⟩ := info_parts info_node
  have hT' : T.size ≤ 1099511627776 := hT
  have hlb' : l.length ≤ 1099511627776 := hlb
  obtain ⟨z0, l0, hl0⟩ : ∃ z0 l0, l = z0 :: l0 := by
    cases l with
    | nil => exact absurd rfl hl
    | cons a b => exact ⟨a, b, rfl⟩
  have hpos : 0 < l.length := by rw [hl0]; simp
  -- the text of what is still to be read
  have htail : ∀ j (hj : j < l.length), ∃ c X k, valT l[j] = c :: X ∧ Starts k c := fun j hj => hst _ (List.getElem_mem _)
  have ha0 : At T p (valT (l[0]'hpos) ++ (listT (l.drop 1) false ++ 93 :: Y)) := by
    subst hl0
    rw [listT] at ha
    simpa using ha
  have hnext : ∀ j (hj : j + 1 < l.length), listT (l.drop (j + 1)) false = 44 :: (valT l[j + 1] ++ listT (l.drop (j + 2)) false) := fun j hj => by
    rw [List.drop_eq_getElem_cons hj, listT]
    simp
  have hend : p + (listT l true).length + 1 + Y.length = T.size := by have := ha.len; simp at this; omega
  have hstop : ∀ j, Stop (listT (l.drop (j + 1)) false ++ 93 :: Y) := fun j => by
    by_cases hj : j + 1 < l.length
    · rw [hnext j hj]; exact Stop_cons (.inl rfl)
    · rw [List.drop_eq_nil_of_le (by omega), listT]; exact Stop_cons (.inr (.inl rfl))
  have hbl0 : Calls Tryz.prog 37 #[.pointer (some ⟨rb, 0, none⟩)] w0 fun e w' => e = .returned (.tuple #[]) ∧ ∃ n, w' = w0.drewN n := by
    obtain ⟨c, X, k, e, hs⟩ := htail 0 hpos
    exact blanks_none h ha0 hT (by rw [e]; exact NoB_cons hs.noB)
  have htk0 : ∀ n, Calls Tryz.prog 74 #[.pointer (some ⟨rb, 0, none⟩), .int .u8 93] (w0.drewN n) fun e w' => e = .returned (.bool false) ∧ ∃ m, w' = (w0.drewN n).drewN m := fun n => by
    obtain ⟨c, X, k, e, hs⟩ := htail 0 hpos
    rw [e] at ha0
    exact take_no (c := 93) rfl (by exact h) ha0 hT (hs.no93)
  have hstart := Lib.hid (Mid.start (x := x) (kd := 6) h hb hne)
  have hH := Lib.hid h
  have hbl0H := Lib.hid hbl0
  have htk0H := Lib.hid htk0
  have ha0H := Lib.hid ha0
  have hnextH := Lib.hid hnext
  have hendH := Lib.hid hend
  have hstopH := Lib.hid hstop
  have htailH := Lib.hid htail
  have hvalH := Lib.hid hval
  have hTH := Lib.hid hT
  clear h hb hne ha hst hbl0 htk0 ha0 hnext hend hstop hval htail hl0 hl hT hlb
  go_enter Tryz.func63, Tryz.ntmps63
  go_wp2_with (first
    | (go_at_call 37; refine hbl0H.out.mono ?_; rintro e w1 ⟨rfl, n1, rfl⟩)
    | (go_at_call 74; refine (htk0H.out n1).mono ?_; rintro e w2 ⟨rfl, n2, rfl⟩))
  go_loopg [8] (l.length) (fun k mo wr => ∃ j q lv xs S, j ≤ l.length ∧ k = l.length - j ∧ ((mo = .bool true ∧ ∃ hj : j < l.length, Hid (At T q (valT l[j] ++ (listT (l.drop (j + 1)) false ++ 93 :: Y)))) ∨ (mo = .bool false ∧ j = l.length ∧ Hid (At T q (93 :: Y)))) ∧
    Hid (Mid w0 wr rb nb T q 6 x lv lv (.slice none 0 0) (l.take j) [] j xs [] [] S))
  case atStart => exact ⟨0, p, _, _, _, Nat.zero_le _, rfl, .inl ⟨rfl, hpos, ha0H⟩, Lib.hid (by have := (hstart.out.drewN n1).drewN n2; rw [World.drewN_drewN] at this; exact this)⟩
  case round =>
    obtain ⟨j, q, lv, xs, S, hjl, hk, hmo, hM⟩ := hrel
    obtain ⟨d0, d1, d2, g1, g2⟩ := hM.out.rdr.cells
    rcases hmo with ⟨rfl, hj, hat⟩ | ⟨rfl, hje, hat⟩
    · have hv2 : ∀ W, Rdr W rb T q → Calls Tryz.prog 36 #[.pointer (some ⟨rb, 0, none⟩), .int .i64 ((d : Int) - 1)] W (VOut W rb T (q + (valT l[j]).length) l[j]) := hvalH.out j hj q _ hat.out (hstopH.out j)
      have hat2 : At T (q + (valT l[j]).length) (listT (l.drop (j + 1)) false ++ 93 :: Y) := hat.out.skip
      obtain ⟨q2, hq2⟩ : ∃ q2, q2 = q + (valT l[j]).length := ⟨_, rfl⟩
      rw [← hq2] at hv2 hat2
      have htake : l.take (j + 1) = l.take j ++ [l[j]] := List.take_succ_eq_append_getElem hj
      obtain ⟨z, hz⟩ : ∃ z, l[j] = z := ⟨_, rfl⟩
      rw [hz] at hv2 htake
      obtain ⟨zk, zi, zr, zt, zl, zks⟩ := z
      obtain ⟨nk, hnk⟩ : ∃ nk, nodeK zk = nk := ⟨_, rfl⟩
      obtain ⟨nt, hnt⟩ : ∃ nt, nodeT zk zi zr zt = nt := ⟨_, rfl⟩
      obtain ⟨z, hzz⟩ : ∃ z, Val.mk zk zi zr zt zl zks = z := ⟨_, rfl⟩
      have hagg : ∀ ls kz a b, (aggN z ls kz a b).toList = [.int .i64 nk, .string nt, ls, kz, .int .i64 a, .int .i64 b] := fun ls kz a b => by rw [← hzz, ← hnk, ← hnt]; rfl
      have hv3 : ∀ W, Rdr W rb T q → Calls Tryz.prog 36 #[.pointer (some ⟨rb, 0, none⟩), .int .i64 ((d : Int) - 1)] W fun e w' => ∃ ao n c ao2 n2 c2 a b S2, e = .returned (.agg #[.int .i64 nk, .string nt, .slice ao n c, .slice ao2 n2 c2, .int .i64 a, .int .i64 b]) ∧ NSubs S2 w' z (.slice ao n c) (.slice ao2 n2 c2) ∧ (∀ k, S2 k → W.heap.size ≤ k ∧ k < w'.heap.size) ∧ Went W w' rb T q2 := fun W hW => (hv2 W hW).mono fun e w' hh => by
        obtain ⟨ls, kz, a, b, S2, he, hN, hS, hw⟩ := hh
        obtain ⟨⟨ao, c, rfl, h1⟩, ⟨ao2, c2, rfl, h2⟩⟩ := hN
        refine ⟨ao, _, c, ao2, _, c2, a, b, S2, by rw [he, ← hnk, ← hnt]; rfl, by rw [← hzz]; exact ⟨⟨ao, c, rfl, h1⟩, ⟨ao2, c2, rfl, h2⟩⟩, hS, hw⟩
      have hljn : (l.take j).length = j := by rw [List.length_take]; omega
      have hv3H := Lib.hid hv3
      have hat2H := Lib.hid hat2
      have haggH := Lib.hid hagg
      have htakeH := Lib.hid (htake.trans (by rw [hzz]))
      have hljH := Lib.hid hljn
      have hsz0 := hM.out.kp.size
      have k2 : wr.cell? ⟨nb, 2, none⟩ = some lv := cells_of hM.out.blk 2
      have y2 : wr.frozen? ⟨nb, 2, none⟩ = false := free_of hM.out.blk 2
      obtain ⟨lo, lc, hlv⟩ : ∃ lo lc, lv = .slice lo j lc := by
        rcases hM.out.rows.2 with ⟨e, e2⟩ | ⟨g, cap, cu, e, _⟩
        · exact ⟨none, 0, by rw [e, e2]⟩
        · exact ⟨_, _, e⟩
      have hjlt : (j : Int) < (j : Int) + 1 := by omega
      clear hv2 hv3 hat2 hagg hz hzz hnk hnt htake hq2 hljn hat
      have hne1 := Lib.hid zero_one
      have hwrH : Hid (IntKind.i64.wrap ((d : Int) - 1) = (d : Int) - 1) := Lib.hid (by rw [IntKind.wrap_i64]; omega)
      subst hlv
      have k2a := fun o => cells_alloc hM.out.blk o 2
      simp only [List.getElem?_toArray, List.getElem?_cons_zero, List.getElem?_cons_succ] at k2a
      have hM := Lib.hid hM.out.drew
      have hrbw : rb < wr.heap.size := hM.out.rdr.lt
      go_wp2_with fail
      go_region_law (first
        | (refine step_append_lies _ rfl (.tmp 48) (.tmp 54) 46 rfl w0.heap.size 48 i0 (.agg #[.int .i64 0, .string ⟨#[]⟩, .slice none 0 0, .slice none 0 0, .int .i64 0, .int .i64 0]) 6 88 Tryz.underlying46 hi hz0 hz1 hz2 rfl (by omega) (.slice lo j lc) j (xs ++ []) (by simp [Act.eval, Act.put]) (by exact (hM.out.alloc _).rows) ⟨wr.heap.size, 0, none⟩ 1 1 zeroN (by simp [Act.eval, Act.put]) rfl (World.news_of_block (by exact heap_alloc_new _ _)) hne1.out (by omega) (by unfold maxLen; omega) (by omega) (by have := hM.out.kp.size; simp at this ⊢; omega) _ rfl ?_; intro g cap w5 hown5 hgrow5 hat5 hlt5; have hM := Lib.hid (Mid.grow (hM.out.alloc _) hown5 hgrow5 (hat5.imp id fun h => Nat.le_of_eq h.symm)); clear hown5 hgrow5 hat5 hlt5; have k2 := cells_of hM.out.blk 2; have y2 := free_of hM.out.blk 2; have k2a := fun o => cells_alloc hM.out.blk o 2; simp only [List.getElem?_toArray, List.getElem?_cons_zero, List.getElem?_cons_succ] at k2 k2a; (try (obtain ⟨⟨t0, t1, t2, t3, t4, t5⟩, tf⟩ := own_tail (o := j * 6) (by have := hM.out.nodes.1; rw [hljH.out] at this; omega) hM.out.rows; have tf0 := tf (j * 6); have tf1 := tf (j * 6 + 1); have tf2 := tf (j * 6 + 2); have tf3 := tf (j * 6 + 3); have tf4 := tf (j * 6 + 4); have tf5 := tf (j * 6 + 5); clear tf; have hgnb : ¬ g = nb := (by have := (hM.out.rows.lt g rfl).1; have := hM.out.low.2.1; omega); have hnbg : ¬ nb = g := (fun e => hgnb e.symm))))
        | (refine step_append_lies _ rfl (.tmp 48) (.tmp 54) 46 rfl w0.heap.size 48 i0 (.agg #[.int .i64 0, .string ⟨#[]⟩, .slice none 0 0, .slice none 0 0, .int .i64 0, .int .i64 0]) 6 88 Tryz.underlying46 hi hz0 hz1 hz2 rfl (by omega) (.slice lo j lc) j (xs ++ []) (by simp [Act.eval, Act.put]) (by exact hM.out.rows) ⟨wr.heap.size, 0, none⟩ 1 1 zeroN (by simp [Act.eval, Act.put]) rfl (World.news_of_block (by exact hw6.2.at (by simp) (by show ¬ wr.heap.size = rb; omega) (heap_alloc_new _ _))) hne1.out (by omega) (by unfold maxLen; omega) (by omega) (by have := hM.out.kp.size; simp at this ⊢; omega) _ rfl ?_; intro g cap w5 hown5 hgrow5 hat5 hlt5; have hM := Lib.hid (Mid.grow hM.out hown5 hgrow5 (hat5.imp id fun h => Nat.le_of_eq h.symm)); clear hown5 hgrow5 hat5 hlt5; have k2 := cells_of hM.out.blk 2; have y2 := free_of hM.out.blk 2; have k2a := fun o => cells_alloc hM.out.blk o 2; simp only [List.getElem?_toArray, List.getElem?_cons_zero, List.getElem?_cons_succ] at k2 k2a; (try (obtain ⟨⟨t0, t1, t2, t3, t4, t5⟩, tf⟩ := own_tail (o := j * 6) (by have := hM.out.nodes.1; rw [hljH.out] at this; omega) hM.out.rows; have tf0 := tf (j * 6); have tf1 := tf (j * 6 + 1); have tf2 := tf (j * 6 + 2); have tf3 := tf (j * 6 + 3); have tf4 := tf (j * 6 + 4); have tf5 := tf (j * 6 + 5); clear tf; have hgnb : ¬ g = nb := (by have := (hM.out.rows.lt g rfl).1; have := hM.out.low.2.1; omega); have hnbg : ¬ nb = g := (fun e => hgnb e.symm))))
        | (refine step_append_lies _ rfl (.tmp 48) (.tmp 54) 46 rfl w0.heap.size 48 i0 (.agg #[.int .i64 0, .string ⟨#[]⟩, .slice none 0 0, .slice none 0 0, .int .i64 0, .int .i64 0]) 6 88 Tryz.underlying46 hi hz0 hz1 hz2 rfl (by omega) (.slice lo j lc) j (xs ++ []) (by simp [Act.eval, Act.put]) (by exact (hM.out.alloc _).rows) ⟨w6.heap.size, 0, none⟩ 1 1 zeroN (by simp [Act.eval, Act.put]) rfl (World.news_of_block (by exact heap_alloc_new _ _)) hne1.out (by omega) (by unfold maxLen; omega) (by omega) (by have := hM.out.kp.size; simp at this ⊢; omega) _ rfl ?_; intro g cap w5 hown5 hgrow5 hat5 hlt5; have hM := Lib.hid (Mid.grow (hM.out.alloc _) hown5 hgrow5 (hat5.imp id fun h => Nat.le_of_eq h.symm)); clear hown5 hgrow5 hat5 hlt5; have k2 := cells_of hM.out.blk 2; have y2 := free_of hM.out.blk 2; have k2a := fun o => cells_alloc hM.out.blk o 2; simp only [List.getElem?_toArray, List.getElem?_cons_zero, List.getElem?_cons_succ] at k2 k2a; (try (obtain ⟨⟨t0, t1, t2, t3, t4, t5⟩, tf⟩ := own_tail (o := j * 6) (by have := hM.out.nodes.1; rw [hljH.out] at this; omega) hM.out.rows; have tf0 := tf (j * 6); have tf1 := tf (j * 6 + 1); have tf2 := tf (j * 6 + 2); have tf3 := tf (j * 6 + 3); have tf4 := tf (j * 6 + 4); have tf5 := tf (j * 6 + 5); clear tf; have hgnb : ¬ g = nb := (by have := (hM.out.rows.lt g rfl).1; have := hM.out.low.2.1; omega); have hnbg : ¬ nb = g := (fun e => hgnb e.symm))))
        | (go_simp; go_at_call 36; rw [hwrH.out]; refine (hv3H.out _ (by first | exact hM.out.rdr | exact (hM.out.alloc _).rdr | exact (hM.out.setCur _).rdr)).mono ?_; rintro e w6 ⟨ao, n, c, ao2, n2, c2, a, b, S2, rfl, hN6, hS6, hw6⟩; (first | have hM := Lib.hid (Mid.read hM.out hw6 hN6 hS6) | have hM := Lib.hid (Mid.read (hM.out.alloc _) hw6 hN6 hS6) | have hM := Lib.hid (Mid.read (hM.out.setCur _) hw6 hN6 hS6)); have k2 := cells_of hM.out.blk 2; have y2 := free_of hM.out.blk 2; have k2a := fun o => cells_alloc hM.out.blk o 2; simp only [List.getElem?_toArray, List.getElem?_cons_zero, List.getElem?_cons_succ] at k2 k2a; (try (obtain ⟨⟨t0, t1, t2, t3, t4, t5⟩, tf⟩ := own_tail (o := j * 6) (by have := hM.out.nodes.1; rw [hljH.out] at this; omega) hM.out.rows; have tf0 := tf (j * 6); have tf1 := tf (j * 6 + 1); have tf2 := tf (j * 6 + 2); have tf3 := tf (j * 6 + 3); have tf4 := tf (j * 6 + 4); have tf5 := tf (j * 6 + 5); clear tf; have hgnb : ¬ g = nb := (by have := (hM.out.rows.lt g rfl).1; have := hM.out.low.2.1; omega); have hnbg : ¬ nb = g := (fun e => hgnb e.symm)))))
      · have hF := Mid.close (haggH.out (.slice ao n c) (.slice ao2 n2 c2) a b).symm ((Mid.fill (o := j * 6) (v0 := .int .i64 nk) (v1 := .string nt) (v2 := .slice ao n c) (v3 := .slice ao2 n2 c2) (v4 := .int .i64 a) (v5 := .int .i64 b) hM.out (by rw [hljH.out]; omega) (by omega)).setCur (.slice (some ⟨g, 0, none⟩) (j + 1) cap))
        rw [← htakeH.out] at hF
        generalize (((((((w5.setCell ⟨g, j * 6, none⟩ (.int .i64 nk)).setCell ⟨g, j * 6 + 1, none⟩ (.string nt)).setCell ⟨g, j * 6 + 2, none⟩ (.slice ao n c)).setCell ⟨g, j * 6 + 3, none⟩ (.slice ao2 n2 c2)).setCell ⟨g, j * 6 + 4, none⟩ (.int .i64 a)).setCell ⟨g, j * 6 + 5, none⟩ (.int .i64 b)).setCell ⟨nb, 2, none⟩ (.slice (some ⟨g, 0, none⟩) (j + 1) cap)) = W at hF ⊢
        have hFH := Lib.hid hF
        have hRW := Lib.hid hF.rdr
        clear hF hM t0 t1 t2 t3 t4 t5 tf0 tf1 tf2 tf3 tf4 tf5 k2 k2a y2 d0 d1 d2 g1 g2 hN6 hS6 hw6
        by_cases hnx : j + 1 < l.length
        · have hat3 : Hid (At T q2 (44 :: (valT l[j + 1] ++ (listT (l.drop (j + 2)) false ++ 93 :: Y)))) := Lib.hid (by
            have h5 := hat2H.out
            rw [hnextH.out j hnx, List.cons_append, List.append_assoc] at h5
            exact h5)
          go_wp2_with (first
            | (go_at_call 37; refine (blanks_none hRW.out hat3.out hTH.out (NoB_cons (by decide))).mono ?_; rintro e w7 ⟨rfl, n7, rfl⟩)
            | (go_at_call 74; refine (take_yes (c := 44) rfl (by exact hRW.out) hat3.out hTH.out).mono ?_; rintro e w8 ⟨rfl, hw8⟩; have hM8 := Lib.hid ((hFH.out.drewN n7).went hw8); clear hw8))
          go_roundg (l.length - (j + 1))
          case measure => omega
          case rel => exact ⟨j + 1, q2 + 1, _, _, _, by omega, rfl, .inl ⟨rfl, hnx, Lib.hid hat3.out.tail⟩, hM8⟩
        · have hat3 : Hid (At T q2 (93 :: Y)) := Lib.hid (by
            have h5 := hat2H.out
            rw [List.drop_eq_nil_of_le (by omega), listT] at h5
            exact h5)
          go_wp2_with (first
            | (go_at_call 37; refine (blanks_none hRW.out hat3.out hTH.out (NoB_cons (by decide))).mono ?_; rintro e w7 ⟨rfl, n7, rfl⟩)
            | (go_at_call 74; refine (take_no (c := 44) (d := 93) rfl (by exact hRW.out) hat3.out hTH.out (by decide)).mono ?_; rintro e w8 ⟨rfl, n8, rfl⟩; have hM8 := hFH.out.drewN n7; have hM8 := hM8.drewN n8; rw [World.drewN_drewN] at hM8; have hM8 := Lib.hid hM8))
          go_roundg (l.length - (j + 1))
          case measure => omega
          case rel => exact ⟨j + 1, q2, _, _, _, by omega, rfl, .inr ⟨rfl, by omega, hat3⟩, hM8⟩
      · have hF := Mid.close (haggH.out (.slice ao n c) (.slice ao2 n2 c2) a b).symm (Mid.fill (o := j * 6) (v0 := .int .i64 nk) (v1 := .string nt) (v2 := .slice ao n c) (v3 := .slice ao2 n2 c2) (v4 := .int .i64 a) (v5 := .int .i64 b) (hM.out.setCur (.slice (some ⟨g, 0, none⟩) (j + 1) cap)) (by rw [hljH.out]; omega) (by omega))
        rw [← htakeH.out] at hF
        generalize (((((((w5.setCell ⟨nb, 2, none⟩ (.slice (some ⟨g, 0, none⟩) (j + 1) cap)).setCell ⟨g, j * 6, none⟩ (.int .i64 nk)).setCell ⟨g, j * 6 + 1, none⟩ (.string nt)).setCell ⟨g, j * 6 + 2, none⟩ (.slice ao n c)).setCell ⟨g, j * 6 + 3, none⟩ (.slice ao2 n2 c2)).setCell ⟨g, j * 6 + 4, none⟩ (.int .i64 a)).setCell ⟨g, j * 6 + 5, none⟩ (.int .i64 b)) = W at hF ⊢
        have hFH := Lib.hid hF
        have hRW := Lib.hid hF.rdr
        clear hF hM t0 t1 t2 t3 t4 t5 tf0 tf1 tf2 tf3 tf4 tf5 k2 k2a y2 d0 d1 d2 g1 g2 hN6 hS6 hw6
        by_cases hnx : j + 1 < l.length
        · have hat3 : Hid (At T q2 (44 :: (valT l[j + 1] ++ (listT (l.drop (j + 2)) false ++ 93 :: Y)))) := Lib.hid (by
            have h5 := hat2H.out
            rw [hnextH.out j hnx, List.cons_append, List.append_assoc] at h5
            exact h5)
          go_wp2_with (first
            | (go_at_call 37; refine (blanks_none hRW.out hat3.out hTH.out (NoB_cons (by decide))).mono ?_; rintro e w7 ⟨rfl, n7, rfl⟩)
            | (go_at_call 74; refine (take_yes (c := 44) rfl (by exact hRW.out) hat3.out hTH.out).mono ?_; rintro e w8 ⟨rfl, hw8⟩; have hM8 := Lib.hid ((hFH.out.drewN n7).went hw8); clear hw8))
          go_roundg (l.length - (j + 1))
          case measure => omega
          case rel => exact ⟨j + 1, q2 + 1, _, _, _, by omega, rfl, .inl ⟨rfl, hnx, Lib.hid hat3.out.tail⟩, hM8⟩
        · have hat3 : Hid (At T q2 (93 :: Y)) := Lib.hid (by
            have h5 := hat2H.out
            rw [List.drop_eq_nil_of_le (by omega), listT] at h5
            exact h5)
          go_wp2_with (first
            | (go_at_call 37; refine (blanks_none hRW.out hat3.out hTH.out (NoB_cons (by decide))).mono ?_; rintro e w7 ⟨rfl, n7, rfl⟩)
            | (go_at_call 74; refine (take_no (c := 44) (d := 93) rfl (by exact hRW.out) hat3.out hTH.out (by decide)).mono ?_; rintro e w8 ⟨rfl, n8, rfl⟩; have hM8 := hFH.out.drewN n7; have hM8 := hM8.drewN n8; rw [World.drewN_drewN] at hM8; have hM8 := Lib.hid hM8))
          go_roundg (l.length - (j + 1))
          case measure => omega
          case rel => exact ⟨j + 1, q2, _, _, _, by omega, rfl, .inr ⟨rfl, by omega, hat3⟩, hM8⟩
      · have hF := Mid.close (haggH.out (.slice ao n c) (.slice ao2 n2 c2) a b).symm ((Mid.fill (o := j * 6) (v0 := .int .i64 nk) (v1 := .string nt) (v2 := .slice ao n c) (v3 := .slice ao2 n2 c2) (v4 := .int .i64 a) (v5 := .int .i64 b) hM.out (by rw [hljH.out]; omega) (by omega)).setCur (.slice (some ⟨g, 0, none⟩) (j + 1) cap))
        rw [← htakeH.out] at hF
        generalize (((((((w5.setCell ⟨g, j * 6, none⟩ (.int .i64 nk)).setCell ⟨g, j * 6 + 1, none⟩ (.string nt)).setCell ⟨g, j * 6 + 2, none⟩ (.slice ao n c)).setCell ⟨g, j * 6 + 3, none⟩ (.slice ao2 n2 c2)).setCell ⟨g, j * 6 + 4, none⟩ (.int .i64 a)).setCell ⟨g, j * 6 + 5, none⟩ (.int .i64 b)).setCell ⟨nb, 2, none⟩ (.slice (some ⟨g, 0, none⟩) (j + 1) cap)) = W at hF ⊢
        have hFH := Lib.hid hF
        have hRW := Lib.hid hF.rdr
        clear hF hM t0 t1 t2 t3 t4 t5 tf0 tf1 tf2 tf3 tf4 tf5 k2 k2a y2 d0 d1 d2 g1 g2 hN6 hS6 hw6
        by_cases hnx : j + 1 < l.length
        · have hat3 : Hid (At T q2 (44 :: (valT l[j + 1] ++ (listT (l.drop (j + 2)) false ++ 93 :: Y)))) := Lib.hid (by
            have h5 := hat2H.out
            rw [hnextH.out j hnx, List.cons_append, List.append_assoc] at h5
            exact h5)
          go_wp2_with (first
            | (go_at_call 37; refine (blanks_none hRW.out hat3.out hTH.out (NoB_cons (by decide))).mono ?_; rintro e w7 ⟨rfl, n7, rfl⟩)
            | (go_at_call 74; refine (take_yes (c := 44) rfl (by exact hRW.out) hat3.out hTH.out).mono ?_; rintro e w8 ⟨rfl, hw8⟩; have hM8 := Lib.hid ((hFH.out.drewN n7).went hw8); clear hw8))
          go_roundg (l.length - (j + 1))
          case measure => omega
          case rel => exact ⟨j + 1, q2 + 1, _, _, _, by omega, rfl, .inl ⟨rfl, hnx, Lib.hid hat3.out.tail⟩, hM8⟩
        · have hat3 : Hid (At T q2 (93 :: Y)) := Lib.hid (by
            have h5 := hat2H.out
            rw [List.drop_eq_nil_of_le (by omega), listT] at h5
            exact h5)
          go_wp2_with (first
            | (go_at_call 37; refine (blanks_none hRW.out hat3.out hTH.out (NoB_cons (by decide))).mono ?_; rintro e w7 ⟨rfl, n7, rfl⟩)
            | (go_at_call 74; refine (take_no (c := 44) (d := 93) rfl (by exact hRW.out) hat3.out hTH.out (by decide)).mono ?_; rintro e w8 ⟨rfl, n8, rfl⟩; have hM8 := hFH.out.drewN n7; have hM8 := hM8.drewN n8; rw [World.drewN_drewN] at hM8; have hM8 := Lib.hid hM8))
          go_roundg (l.length - (j + 1))
          case measure => omega
          case rel => exact ⟨j + 1, q2, _, _, _, by omega, rfl, .inr ⟨rfl, by omega, hat3⟩, hM8⟩
      · have hF := Mid.close (haggH.out (.slice ao n c) (.slice ao2 n2 c2) a b).symm (Mid.fill (o := j * 6) (v0 := .int .i64 nk) (v1 := .string nt) (v2 := .slice ao n c) (v3 := .slice ao2 n2 c2) (v4 := .int .i64 a) (v5 := .int .i64 b) (hM.out.setCur (.slice (some ⟨g, 0, none⟩) (j + 1) cap)) (by rw [hljH.out]; omega) (by omega))
        rw [← htakeH.out] at hF
        generalize (((((((w5.setCell ⟨nb, 2, none⟩ (.slice (some ⟨g, 0, none⟩) (j + 1) cap)).setCell ⟨g, j * 6, none⟩ (.int .i64 nk)).setCell ⟨g, j * 6 + 1, none⟩ (.string nt)).setCell ⟨g, j * 6 + 2, none⟩ (.slice ao n c)).setCell ⟨g, j * 6 + 3, none⟩ (.slice ao2 n2 c2)).setCell ⟨g, j * 6 + 4, none⟩ (.int .i64 a)).setCell ⟨g, j * 6 + 5, none⟩ (.int .i64 b)) = W at hF ⊢
        have hFH := Lib.hid hF
        have hRW := Lib.hid hF.rdr
        clear hF hM t0 t1 t2 t3 t4 t5 tf0 tf1 tf2 tf3 tf4 tf5 k2 k2a y2 d0 d1 d2 g1 g2 hN6 hS6 hw6
        by_cases hnx : j + 1 < l.length
        · have hat3 : Hid (At T q2 (44 :: (valT l[j + 1] ++ (listT (l.drop (j + 2)) false ++ 93 :: Y)))) := Lib.hid (by
            have h5 := hat2H.out
            rw [hnextH.out j hnx, List.cons_append, List.append_assoc] at h5
            exact h5)
          go_wp2_with (first
            | (go_at_call 37; refine (blanks_none hRW.out hat3.out hTH.out (NoB_cons (by decide))).mono ?_; rintro e w7 ⟨rfl, n7, rfl⟩)
            | (go_at_call 74; refine (take_yes (c := 44) rfl (by exact hRW.out) hat3.out hTH.out).mono ?_; rintro e w8 ⟨rfl, hw8⟩; have hM8 := Lib.hid ((hFH.out.drewN n7).went hw8); clear hw8))
          go_roundg (l.length - (j + 1))
          case measure => omega
          case rel => exact ⟨j + 1, q2 + 1, _, _, _, by omega, rfl, .inl ⟨rfl, hnx, Lib.hid hat3.out.tail⟩, hM8⟩
        · have hat3 : Hid (At T q2 (93 :: Y)) := Lib.hid (by
            have h5 := hat2H.out
            rw [List.drop_eq_nil_of_le (by omega), listT] at h5
            exact h5)
          go_wp2_with (first
            | (go_at_call 37; refine (blanks_none hRW.out hat3.out hTH.out (NoB_cons (by decide))).mono ?_; rintro e w7 ⟨rfl, n7, rfl⟩)
            | (go_at_call 74; refine (take_no (c := 44) (d := 93) rfl (by exact hRW.out) hat3.out hTH.out (by decide)).mono ?_; rintro e w8 ⟨rfl, n8, rfl⟩; have hM8 := hFH.out.drewN n7; have hM8 := hM8.drewN n8; rw [World.drewN_drewN] at hM8; have hM8 := Lib.hid hM8))
          go_roundg (l.length - (j + 1))
          case measure => omega
          case rel => exact ⟨j + 1, q2, _, _, _, by omega, rfl, .inr ⟨rfl, by omega, hat3⟩, hM8⟩
      · have hF := Mid.close (haggH.out (.slice ao n c) (.slice ao2 n2 c2) a b).symm ((Mid.fill (o := j * 6) (v0 := .int .i64 nk) (v1 := .string nt) (v2 := .slice ao n c) (v3 := .slice ao2 n2 c2) (v4 := .int .i64 a) (v5 := .int .i64 b) hM.out (by rw [hljH.out]; omega) (by omega)).setCur (.slice (some ⟨g, 0, none⟩) (j + 1) cap))
        rw [← htakeH.out] at hF
        generalize (((((((w5.setCell ⟨g, j * 6, none⟩ (.int .i64 nk)).setCell ⟨g, j * 6 + 1, none⟩ (.string nt)).setCell ⟨g, j * 6 + 2, none⟩ (.slice ao n c)).setCell ⟨g, j * 6 + 3, none⟩ (.slice ao2 n2 c2)).setCell ⟨g, j * 6 + 4, none⟩ (.int .i64 a)).setCell ⟨g, j * 6 + 5, none⟩ (.int .i64 b)).setCell ⟨nb, 2, none⟩ (.slice (some ⟨g, 0, none⟩) (j + 1) cap)) = W at hF ⊢
        have hFH := Lib.hid hF
        have hRW := Lib.hid hF.rdr
        clear hF hM t0 t1 t2 t3 t4 t5 tf0 tf1 tf2 tf3 tf4 tf5 k2 k2a y2 d0 d1 d2 g1 g2 hN6 hS6 hw6
        by_cases hnx : j + 1 < l.length
        · have hat3 : Hid (At T q2 (44 :: (valT l[j + 1] ++ (listT (l.drop (j + 2)) false ++ 93 :: Y)))) := Lib.hid (by
            have h5 := hat2H.out
            rw [hnextH.out j hnx, List.cons_append, List.append_assoc] at h5
            exact h5)
          go_wp2_with (first
            | (go_at_call 37; refine (blanks_none hRW.out hat3.out hTH.out (NoB_cons (by decide))).mono ?_; rintro e w7 ⟨rfl, n7, rfl⟩)
            | (go_at_call 74; refine (take_yes (c := 44) rfl (by exact hRW.out) hat3.out hTH.out).mono ?_; rintro e w8 ⟨rfl, hw8⟩; have hM8 := Lib.hid ((hFH.out.drewN n7).went hw8); clear hw8))
          go_roundg (l.length - (j + 1))
          case measure => omega
          case rel => exact ⟨j + 1, q2 + 1, _, _, _, by omega, rfl, .inl ⟨rfl, hnx, Lib.hid hat3.out.tail⟩, hM8⟩
        · have hat3 : Hid (At T q2 (93 :: Y)) := Lib.hid (by
            have h5 := hat2H.out
            rw [List.drop_eq_nil_of_le (by omega), listT] at h5
            exact h5)
          go_wp2_with (first
            | (go_at_call 37; refine (blanks_none hRW.out hat3.out hTH.out (NoB_cons (by decide))).mono ?_; rintro e w7 ⟨rfl, n7, rfl⟩)
            | (go_at_call 74; refine (take_no (c := 44) (d := 93) rfl (by exact hRW.out) hat3.out hTH.out (by decide)).mono ?_; rintro e w8 ⟨rfl, n8, rfl⟩; have hM8 := hFH.out.drewN n7; have hM8 := hM8.drewN n8; rw [World.drewN_drewN] at hM8; have hM8 := Lib.hid hM8))
          go_roundg (l.length - (j + 1))
          case measure => omega
          case rel => exact ⟨j + 1, q2, _, _, _, by omega, rfl, .inr ⟨rfl, by omega, hat3⟩, hM8⟩
      · have hF := Mid.close (haggH.out (.slice ao n c) (.slice ao2 n2 c2) a b).symm (Mid.fill (o := j * 6) (v0 := .int .i64 nk) (v1 := .string nt) (v2 := .slice ao n c) (v3 := .slice ao2 n2 c2) (v4 := .int .i64 a) (v5 := .int .i64 b) (hM.out.setCur (.slice (some ⟨g, 0, none⟩) (j + 1) cap)) (by rw [hljH.out]; omega) (by omega))
        rw [← htakeH.out] at hF
        generalize (((((((w5.setCell ⟨nb, 2, none⟩ (.slice (some ⟨g, 0, none⟩) (j + 1) cap)).setCell ⟨g, j * 6, none⟩ (.int .i64 nk)).setCell ⟨g, j * 6 + 1, none⟩ (.string nt)).setCell ⟨g, j * 6 + 2, none⟩ (.slice ao n c)).setCell ⟨g, j * 6 + 3, none⟩ (.slice ao2 n2 c2)).setCell ⟨g, j * 6 + 4, none⟩ (.int .i64 a)).setCell ⟨g, j * 6 + 5, none⟩ (.int .i64 b)) = W at hF ⊢
        have hFH := Lib.hid hF
        have hRW := Lib.hid hF.rdr
        clear hF hM t0 t1 t2 t3 t4 t5 tf0 tf1 tf2 tf3 tf4 tf5 k2 k2a y2 d0 d1 d2 g1 g2 hN6 hS6 hw6
        by_cases hnx : j + 1 < l.length
        · have hat3 : Hid (At T q2 (44 :: (valT l[j + 1] ++ (listT (l.drop (j + 2)) false ++ 93 :: Y)))) := Lib.hid (by
            have h5 := hat2H.out
            rw [hnextH.out j hnx, List.cons_append, List.append_assoc] at h5
            exact h5)
          go_wp2_with (first
            | (go_at_call 37; refine (blanks_none hRW.out hat3.out hTH.out (NoB_cons (by decide))).mono ?_; rintro e w7 ⟨rfl, n7, rfl⟩)
            | (go_at_call 74; refine (take_yes (c := 44) rfl (by exact hRW.out) hat3.out hTH.out).mono ?_; rintro e w8 ⟨rfl, hw8⟩; have hM8 := Lib.hid ((hFH.out.drewN n7).went hw8); clear hw8))
          go_roundg (l.length - (j + 1))
          case measure => omega
          case rel => exact ⟨j + 1, q2 + 1, _, _, _, by omega, rfl, .inl ⟨rfl, hnx, Lib.hid hat3.out.tail⟩, hM8⟩
        · have hat3 : Hid (At T q2 (93 :: Y)) := Lib.hid (by
            have h5 := hat2H.out
            rw [List.drop_eq_nil_of_le (by omega), listT] at h5
            exact h5)
          go_wp2_with (first
            | (go_at_call 37; refine (blanks_none hRW.out hat3.out hTH.out (NoB_cons (by decide))).mono ?_; rintro e w7 ⟨rfl, n7, rfl⟩)
            | (go_at_call 74; refine (take_no (c := 44) (d := 93) rfl (by exact hRW.out) hat3.out hTH.out (by decide)).mono ?_; rintro e w8 ⟨rfl, n8, rfl⟩; have hM8 := hFH.out.drewN n7; have hM8 := hM8.drewN n8; rw [World.drewN_drewN] at hM8; have hM8 := Lib.hid hM8))
          go_roundg (l.length - (j + 1))
          case measure => omega
          case rel => exact ⟨j + 1, q2, _, _, _, by omega, rfl, .inr ⟨rfl, by omega, hat3⟩, hM8⟩
      · have hF := Mid.close (haggH.out (.slice ao n c) (.slice ao2 n2 c2) a b).symm ((Mid.fill (o := j * 6) (v0 := .int .i64 nk) (v1 := .string nt) (v2 := .slice ao n c) (v3 := .slice ao2 n2 c2) (v4 := .int .i64 a) (v5 := .int .i64 b) hM.out (by rw [hljH.out]; omega) (by omega)).setCur (.slice (some ⟨g, 0, none⟩) (j + 1) cap))
        rw [← htakeH.out] at hF
        generalize (((((((w5.setCell ⟨g, j * 6, none⟩ (.int .i64 nk)).setCell ⟨g, j * 6 + 1, none⟩ (.string nt)).setCell ⟨g, j * 6 + 2, none⟩ (.slice ao n c)).setCell ⟨g, j * 6 + 3, none⟩ (.slice ao2 n2 c2)).setCell ⟨g, j * 6 + 4, none⟩ (.int .i64 a)).setCell ⟨g, j * 6 + 5, none⟩ (.int .i64 b)).setCell ⟨nb, 2, none⟩ (.slice (some ⟨g, 0, none⟩) (j + 1) cap)) = W at hF ⊢
        have hFH := Lib.hid hF
        have hRW := Lib.hid hF.rdr
        clear hF hM t0 t1 t2 t3 t4 t5 tf0 tf1 tf2 tf3 tf4 tf5 k2 k2a y2 d0 d1 d2 g1 g2 hN6 hS6 hw6
        by_cases hnx : j + 1 < l.length
        · have hat3 : Hid (At T q2 (44 :: (valT l[j + 1] ++ (listT (l.drop (j + 2)) false ++ 93 :: Y)))) := Lib.hid (by
            have h5 := hat2H.out
            rw [hnextH.out j hnx, List.cons_append, List.append_assoc] at h5
            exact h5)
          go_wp2_with (first
            | (go_at_call 37; refine (blanks_none hRW.out hat3.out hTH.out (NoB_cons (by decide))).mono ?_; rintro e w7 ⟨rfl, n7, rfl⟩)
            | (go_at_call 74; refine (take_yes (c := 44) rfl (by exact hRW.out) hat3.out hTH.out).mono ?_; rintro e w8 ⟨rfl, hw8⟩; have hM8 := Lib.hid ((hFH.out.drewN n7).went hw8); clear hw8))
          go_roundg (l.length - (j + 1))
          case measure => omega
          case rel => exact ⟨j + 1, q2 + 1, _, _, _, by omega, rfl, .inl ⟨rfl, hnx, Lib.hid hat3.out.tail⟩, hM8⟩
        · have hat3 : Hid (At T q2 (93 :: Y)) := Lib.hid (by
            have h5 := hat2H.out
            rw [List.drop_eq_nil_of_le (by omega), listT] at h5
            exact h5)
          go_wp2_with (first
            | (go_at_call 37; refine (blanks_none hRW.out hat3.out hTH.out (NoB_cons (by decide))).mono ?_; rintro e w7 ⟨rfl, n7, rfl⟩)
            | (go_at_call 74; refine (take_no (c := 44) (d := 93) rfl (by exact hRW.out) hat3.out hTH.out (by decide)).mono ?_; rintro e w8 ⟨rfl, n8, rfl⟩; have hM8 := hFH.out.drewN n7; have hM8 := hM8.drewN n8; rw [World.drewN_drewN] at hM8; have hM8 := Lib.hid hM8))
          go_roundg (l.length - (j + 1))
          case measure => omega
          case rel => exact ⟨j + 1, q2, _, _, _, by omega, rfl, .inr ⟨rfl, by omega, hat3⟩, hM8⟩
      · have hF := Mid.close (haggH.out (.slice ao n c) (.slice ao2 n2 c2) a b).symm (Mid.fill (o := j * 6) (v0 := .int .i64 nk) (v1 := .string nt) (v2 := .slice ao n c) (v3 := .slice ao2 n2 c2) (v4 := .int .i64 a) (v5 := .int .i64 b) (hM.out.setCur (.slice (some ⟨g, 0, none⟩) (j + 1) cap)) (by rw [hljH.out]; omega) (by omega))
        rw [← htakeH.out] at hF
        generalize (((((((w5.setCell ⟨nb, 2, none⟩ (.slice (some ⟨g, 0, none⟩) (j + 1) cap)).setCell ⟨g, j * 6, none⟩ (.int .i64 nk)).setCell ⟨g, j * 6 + 1, none⟩ (.string nt)).setCell ⟨g, j * 6 + 2, none⟩ (.slice ao n c)).setCell ⟨g, j * 6 + 3, none⟩ (.slice ao2 n2 c2)).setCell ⟨g, j * 6 + 4, none⟩ (.int .i64 a)).setCell ⟨g, j * 6 + 5, none⟩ (.int .i64 b)) = W at hF ⊢
        have hFH := Lib.hid hF
        have hRW := Lib.hid hF.rdr
        clear hF hM t0 t1 t2 t3 t4 t5 tf0 tf1 tf2 tf3 tf4 tf5 k2 k2a y2 d0 d1 d2 g1 g2 hN6 hS6 hw6
        by_cases hnx : j + 1 < l.length
        · have hat3 : Hid (At T q2 (44 :: (valT l[j + 1] ++ (listT (l.drop (j + 2)) false ++ 93 :: Y)))) := Lib.hid (by
            have h5 := hat2H.out
            rw [hnextH.out j hnx, List.cons_append, List.append_assoc] at h5
            exact h5)
          go_wp2_with (first
            | (go_at_call 37; refine (blanks_none hRW.out hat3.out hTH.out (NoB_cons (by decide))).mono ?_; rintro e w7 ⟨rfl, n7, rfl⟩)
            | (go_at_call 74; refine (take_yes (c := 44) rfl (by exact hRW.out) hat3.out hTH.out).mono ?_; rintro e w8 ⟨rfl, hw8⟩; have hM8 := Lib.hid ((hFH.out.drewN n7).went hw8); clear hw8))
          go_roundg (l.length - (j + 1))
          case measure => omega
          case rel => exact ⟨j + 1, q2 + 1, _, _, _, by omega, rfl, .inl ⟨rfl, hnx, Lib.hid hat3.out.tail⟩, hM8⟩
        · have hat3 : Hid (At T q2 (93 :: Y)) := Lib.hid (by
            have h5 := hat2H.out
            rw [List.drop_eq_nil_of_le (by omega), listT] at h5
            exact h5)
          go_wp2_with (first
            | (go_at_call 37; refine (blanks_none hRW.out hat3.out hTH.out (NoB_cons (by decide))).mono ?_; rintro e w7 ⟨rfl, n7, rfl⟩)
            | (go_at_call 74; refine (take_no (c := 44) (d := 93) rfl (by exact hRW.out) hat3.out hTH.out (by decide)).mono ?_; rintro e w8 ⟨rfl, n8, rfl⟩; have hM8 := hFH.out.drewN n7; have hM8 := hM8.drewN n8; rw [World.drewN_drewN] at hM8; have hM8 := Lib.hid hM8))
          go_roundg (l.length - (j + 1))
          case measure => omega
          case rel => exact ⟨j + 1, q2, _, _, _, by omega, rfl, .inr ⟨rfl, by omega, hat3⟩, hM8⟩
      · have hF := Mid.close (haggH.out (.slice ao n c) (.slice ao2 n2 c2) a b).symm ((Mid.fill (o := j * 6) (v0 := .int .i64 nk) (v1 := .string nt) (v2 := .slice ao n c) (v3 := .slice ao2 n2 c2) (v4 := .int .i64 a) (v5 := .int .i64 b) hM.out (by rw [hljH.out]; omega) (by omega)).setCur (.slice (some ⟨g, 0, none⟩) (j + 1) cap))
        rw [← htakeH.out] at hF
        generalize (((((((w5.setCell ⟨g, j * 6, none⟩ (.int .i64 nk)).setCell ⟨g, j * 6 + 1, none⟩ (.string nt)).setCell ⟨g, j * 6 + 2, none⟩ (.slice ao n c)).setCell ⟨g, j * 6 + 3, none⟩ (.slice ao2 n2 c2)).setCell ⟨g, j * 6 + 4, none⟩ (.int .i64 a)).setCell ⟨g, j * 6 + 5, none⟩ (.int .i64 b)).setCell ⟨nb, 2, none⟩ (.slice (some ⟨g, 0, none⟩) (j + 1) cap)) = W at hF ⊢
        have hFH := Lib.hid hF
        have hRW := Lib.hid hF.rdr
        clear hF hM t0 t1 t2 t3 t4 t5 tf0 tf1 tf2 tf3 tf4 tf5 k2 k2a y2 d0 d1 d2 g1 g2 hN6 hS6 hw6
        by_cases hnx : j + 1 < l.length
        · have hat3 : Hid (At T q2 (44 :: (valT l[j + 1] ++ (listT (l.drop (j + 2)) false ++ 93 :: Y)))) := Lib.hid (by
            have h5 := hat2H.out
            rw [hnextH.out j hnx, List.cons_append, List.append_assoc] at h5
            exact h5)
          go_wp2_with (first
            | (go_at_call 37; refine (blanks_none hRW.out hat3.out hTH.out (NoB_cons (by decide))).mono ?_; rintro e w7 ⟨rfl, n7, rfl⟩)
            | (go_at_call 74; refine (take_yes (c := 44) rfl (by exact hRW.out) hat3.out hTH.out).mono ?_; rintro e w8 ⟨rfl, hw8⟩; have hM8 := Lib.hid ((hFH.out.drewN n7).went hw8); clear hw8))
          go_roundg (l.length - (j + 1))
          case measure => omega
          case rel => exact ⟨j + 1, q2 + 1, _, _, _, by omega, rfl, .inl ⟨rfl, hnx, Lib.hid hat3.out.tail⟩, hM8⟩
        · have hat3 : Hid (At T q2 (93 :: Y)) := Lib.hid (by
            have h5 := hat2H.out
            rw [List.drop_eq_nil_of_le (by omega), listT] at h5
            exact h5)
          go_wp2_with (first
            | (go_at_call 37; refine (blanks_none hRW.out hat3.out hTH.out (NoB_cons (by decide))).mono ?_; rintro e w7 ⟨rfl, n7, rfl⟩)
            | (go_at_call 74; refine (take_no (c := 44) (d := 93) rfl (by exact hRW.out) hat3.out hTH.out (by decide)).mono ?_; rintro e w8 ⟨rfl, n8, rfl⟩; have hM8 := hFH.out.drewN n7; have hM8 := hM8.drewN n8; rw [World.drewN_drewN] at hM8; have hM8 := Lib.hid hM8))
          go_roundg (l.length - (j + 1))
          case measure => omega
          case rel => exact ⟨j + 1, q2, _, _, _, by omega, rfl, .inr ⟨rfl, by omega, hat3⟩, hM8⟩
      · have hF := Mid.close (haggH.out (.slice ao n c) (.slice ao2 n2 c2) a b).symm (Mid.fill (o := j * 6) (v0 := .int .i64 nk) (v1 := .string nt) (v2 := .slice ao n c) (v3 := .slice ao2 n2 c2) (v4 := .int .i64 a) (v5 := .int .i64 b) (hM.out.setCur (.slice (some ⟨g, 0, none⟩) (j + 1) cap)) (by rw [hljH.out]; omega) (by omega))
        rw [← htakeH.out] at hF
        generalize (((((((w5.setCell ⟨nb, 2, none⟩ (.slice (some ⟨g, 0, none⟩) (j + 1) cap)).setCell ⟨g, j * 6, none⟩ (.int .i64 nk)).setCell ⟨g, j * 6 + 1, none⟩ (.string nt)).setCell ⟨g, j * 6 + 2, none⟩ (.slice ao n c)).setCell ⟨g, j * 6 + 3, none⟩ (.slice ao2 n2 c2)).setCell ⟨g, j * 6 + 4, none⟩ (.int .i64 a)).setCell ⟨g, j * 6 + 5, none⟩ (.int .i64 b)) = W at hF ⊢
        have hFH := Lib.hid hF
        have hRW := Lib.hid hF.rdr
        clear hF hM t0 t1 t2 t3 t4 t5 tf0 tf1 tf2 tf3 tf4 tf5 k2 k2a y2 d0 d1 d2 g1 g2 hN6 hS6 hw6
        by_cases hnx : j + 1 < l.length
        · have hat3 : Hid (At T q2 (44 :: (valT l[j + 1] ++ (listT (l.drop (j + 2)) false ++ 93 :: Y)))) := Lib.hid (by
            have h5 := hat2H.out
            rw [hnextH.out j hnx, List.cons_append, List.append_assoc] at h5
            exact h5)
          go_wp2_with (first
            | (go_at_call 37; refine (blanks_none hRW.out hat3.out hTH.out (NoB_cons (by decide))).mono ?_; rintro e w7 ⟨rfl, n7, rfl⟩)
            | (go_at_call 74; refine (take_yes (c := 44) rfl (by exact hRW.out) hat3.out hTH.out).mono ?_; rintro e w8 ⟨rfl, hw8⟩; have hM8 := Lib.hid ((hFH.out.drewN n7).went hw8); clear hw8))
          go_roundg (l.length - (j + 1))
          case measure => omega
          case rel => exact ⟨j + 1, q2 + 1, _, _, _, by omega, rfl, .inl ⟨rfl, hnx, Lib.hid hat3.out.tail⟩, hM8⟩
        · have hat3 : Hid (At T q2 (93 :: Y)) := Lib.hid (by
            have h5 := hat2H.out
            rw [List.drop_eq_nil_of_le (by omega), listT] at h5
            exact h5)
          go_wp2_with (first
            | (go_at_call 37; refine (blanks_none hRW.out hat3.out hTH.out (NoB_cons (by decide))).mono ?_; rintro e w7 ⟨rfl, n7, rfl⟩)
            | (go_at_call 74; refine (take_no (c := 44) (d := 93) rfl (by exact hRW.out) hat3.out hTH.out (by decide)).mono ?_; rintro e w8 ⟨rfl, n8, rfl⟩; have hM8 := hFH.out.drewN n7; have hM8 := hM8.drewN n8; rw [World.drewN_drewN] at hM8; have hM8 := Lib.hid hM8))
          go_roundg (l.length - (j + 1))
          case measure => omega
          case rel => exact ⟨j + 1, q2, _, _, _, by omega, rfl, .inr ⟨rfl, by omega, hat3⟩, hM8⟩
      · have hF := Mid.close (haggH.out (.slice ao n c) (.slice ao2 n2 c2) a b).symm ((Mid.fill (o := j * 6) (v0 := .int .i64 nk) (v1 := .string nt) (v2 := .slice ao n c) (v3 := .slice ao2 n2 c2) (v4 := .int .i64 a) (v5 := .int .i64 b) hM.out (by rw [hljH.out]; omega) (by omega)).setCur (.slice (some ⟨g, 0, none⟩) (j + 1) cap))
        rw [← htakeH.out] at hF
        generalize (((((((w5.setCell ⟨g, j * 6, none⟩ (.int .i64 nk)).setCell ⟨g, j * 6 + 1, none⟩ (.string nt)).setCell ⟨g, j * 6 + 2, none⟩ (.slice ao n c)).setCell ⟨g, j * 6 + 3, none⟩ (.slice ao2 n2 c2)).setCell ⟨g, j * 6 + 4, none⟩ (.int .i64 a)).setCell ⟨g, j * 6 + 5, none⟩ (.int .i64 b)).setCell ⟨nb, 2, none⟩ (.slice (some ⟨g, 0, none⟩) (j + 1) cap)) = W at hF ⊢
        have hFH := Lib.hid hF
        have hRW := Lib.hid hF.rdr
        clear hF hM t0 t1 t2 t3 t4 t5 tf0 tf1 tf2 tf3 tf4 tf5 k2 k2a y2 d0 d1 d2 g1 g2 hN6 hS6 hw6
        by_cases hnx : j + 1 < l.length
        · have hat3 : Hid (At T q2 (44 :: (valT l[j + 1] ++ (listT (l.drop (j + 2)) false ++ 93 :: Y)))) := Lib.hid (by
            have h5 := hat2H.out
            rw [hnextH.out j hnx, List.cons_append, List.append_assoc] at h5
            exact h5)
          go_wp2_with (first
            | (go_at_call 37; refine (blanks_none hRW.out hat3.out hTH.out (NoB_cons (by decide))).mono ?_; rintro e w7 ⟨rfl, n7, rfl⟩)
            | (go_at_call 74; refine (take_yes (c := 44) rfl (by exact hRW.out) hat3.out hTH.out).mono ?_; rintro e w8 ⟨rfl, hw8⟩; have hM8 := Lib.hid ((hFH.out.drewN n7).went hw8); clear hw8))
          go_roundg (l.length - (j + 1))
          case measure => omega
          case rel => exact ⟨j + 1, q2 + 1, _, _, _, by omega, rfl, .inl ⟨rfl, hnx, Lib.hid hat3.out.tail⟩, hM8⟩
        · have hat3 : Hid (At T q2 (93 :: Y)) := Lib.hid (by
            have h5 := hat2H.out
            rw [List.drop_eq_nil_of_le (by omega), listT] at h5
            exact h5)
          go_wp2_with (first
            | (go_at_call 37; refine (blanks_none hRW.out hat3.out hTH.out (NoB_cons (by decide))).mono ?_; rintro e w7 ⟨rfl, n7, rfl⟩)
            | (go_at_call 74; refine (take_no (c := 44) (d := 93) rfl (by exact hRW.out) hat3.out hTH.out (by decide)).mono ?_; rintro e w8 ⟨rfl, n8, rfl⟩; have hM8 := hFH.out.drewN n7; have hM8 := hM8.drewN n8; rw [World.drewN_drewN] at hM8; have hM8 := Lib.hid hM8))
          go_roundg (l.length - (j + 1))
          case measure => omega
          case rel => exact ⟨j + 1, q2, _, _, _, by omega, rfl, .inr ⟨rfl, by omega, hat3⟩, hM8⟩
      · have hF := Mid.close (haggH.out (.slice ao n c) (.slice ao2 n2 c2) a b).symm (Mid.fill (o := j * 6) (v0 := .int .i64 nk) (v1 := .string nt) (v2 := .slice ao n c) (v3 := .slice ao2 n2 c2) (v4 := .int .i64 a) (v5 := .int .i64 b) (hM.out.setCur (.slice (some ⟨g, 0, none⟩) (j + 1) cap)) (by rw [hljH.out]; omega) (by omega))
        rw [← htakeH.out] at hF
        generalize (((((((w5.setCell ⟨nb, 2, none⟩ (.slice (some ⟨g, 0, none⟩) (j + 1) cap)).setCell ⟨g, j * 6, none⟩ (.int .i64 nk)).setCell ⟨g, j * 6 + 1, none⟩ (.string nt)).setCell ⟨g, j * 6 + 2, none⟩ (.slice ao n c)).setCell ⟨g, j * 6 + 3, none⟩ (.slice ao2 n2 c2)).setCell ⟨g, j * 6 + 4, none⟩ (.int .i64 a)).setCell ⟨g, j * 6 + 5, none⟩ (.int .i64 b)) = W at hF ⊢
        have hFH := Lib.hid hF
        have hRW := Lib.hid hF.rdr
        clear hF hM t0 t1 t2 t3 t4 t5 tf0 tf1 tf2 tf3 tf4 tf5 k2 k2a y2 d0 d1 d2 g1 g2 hN6 hS6 hw6
        by_cases hnx : j + 1 < l.length
        · have hat3 : Hid (At T q2 (44 :: (valT l[j + 1] ++ (listT (l.drop (j + 2)) false ++ 93 :: Y)))) := Lib.hid (by
            have h5 := hat2H.out
            rw [hnextH.out j hnx, List.cons_append, List.append_assoc] at h5
            exact h5)
          go_wp2_with (first
            | (go_at_call 37; refine (blanks_none hRW.out hat3.out hTH.out (NoB_cons (by decide))).mono ?_; rintro e w7 ⟨rfl, n7, rfl⟩)
            | (go_at_call 74; refine (take_yes (c := 44) rfl (by exact hRW.out) hat3.out hTH.out).mono ?_; rintro e w8 ⟨rfl, hw8⟩; have hM8 := Lib.hid ((hFH.out.drewN n7).went hw8); clear hw8))
          go_roundg (l.length - (j + 1))
          case measure => omega
          case rel => exact ⟨j + 1, q2 + 1, _, _, _, by omega, rfl, .inl ⟨rfl, hnx, Lib.hid hat3.out.tail⟩, hM8⟩
        · have hat3 : Hid (At T q2 (93 :: Y)) := Lib.hid (by
            have h5 := hat2H.out
            rw [List.drop_eq_nil_of_le (by omega), listT] at h5
            exact h5)
          go_wp2_with (first
            | (go_at_call 37; refine (blanks_none hRW.out hat3.out hTH.out (NoB_cons (by decide))).mono ?_; rintro e w7 ⟨rfl, n7, rfl⟩)
            | (go_at_call 74; refine (take_no (c := 44) (d := 93) rfl (by exact hRW.out) hat3.out hTH.out (by decide)).mono ?_; rintro e w8 ⟨rfl, n8, rfl⟩; have hM8 := hFH.out.drewN n7; have hM8 := hM8.drewN n8; rw [World.drewN_drewN] at hM8; have hM8 := Lib.hid hM8))
          go_roundg (l.length - (j + 1))
          case measure => omega
          case rel => exact ⟨j + 1, q2, _, _, _, by omega, rfl, .inr ⟨rfl, by omega, hat3⟩, hM8⟩
    · subst hje
      have hM2 : Hid (Mid w0 wr rb nb T q 6 x lv lv (.slice none 0 0) l [] l.length xs [] [] S) := Lib.hid (by have := hM.out; rw [List.take_length] at this; exact this)
      have hq : q + 1 = p + (listT l true).length + 1 := by have h1 := hat.out.len; have h2 := hendH.out; simp at h1; omega
      have hqH := Lib.hid hq
      clear hM hq
      go_wp2_with (go_at_call 74; refine (take_yes (c := 93) rfl hM2.out.rdr hat.out hTH.out).mono ?_; rintro e w8 ⟨rfl, hw8⟩; have hM8 := Lib.hid (hM2.out.went hw8); clear hw8)
      go_end0
      exact ⟨rfl, by rw [← hqH.out]; exact hM8.out.out⟩

end Go.Proofs.YtokmkkkanphihaaGreatRDoor
