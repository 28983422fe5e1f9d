/- spec.Reduced: the value without what is empty, or with null for it, in new memory (written by genRe.py). -/
import Derived.Test.YtokmkkkanphihaaGreatRDoorOnly
namespace Go.Proofs.YtokmkkkanphihaaGreatRDoor
open Go.RowKit Go.Sort

/-- While a list or an object is reduced: the block ob that bears what comes out. -/
structure RSt (W0 w : World) (ob : Nat) (kd : Int) (lv kv : Value) (l : List Val) (ks : List ByteArray) (xs : List Value) (S : Nat → Prop) : Prop where
  blk : w.heap[ob]? = some (.cells #[.int .i64 kd, .int .i64 0, .float .f64 0, .string ⟨#[]⟩, lv, kv] 26 (0, 0))
  row : w.ownsRow W0.heap.size 26 6 lv l.length xs
  vals : RowV S w l xs
  keys : w.ownsRow W0.heap.size 9 1 kv ks.length (ks.map Value.string)
  inS : ∀ k, S k → W0.heap.size ≤ k ∧ k < w.heap.size
  nrow : ∀ g, lv.ownBlock = some g → ¬ S g
  nkey : ∀ g, kv.ownBlock = some g → ¬ S g
  kp : Kp (fun k => k = ob) W0 w
  lt : ob < W0.heap.size

theorem tyV : ¬ (26 = 9) := by decide

section
variable {W0 w : World} {ob : Nat} {kd : Int} {lv kv : Value} {l : List Val} {ks : List ByteArray} {xs : List Value} {S : Nat → Prop}
theorem RSt.apart (h : RSt W0 w ob kd lv kv l ks xs S) : ∀ g, lv.ownBlock = some g → kv.ownBlock ≠ some g := by
  intro g hr hk
  rcases h.row.2 with ⟨a, _⟩ | ⟨g1, cap1, cu1, a1, _, a3, _⟩
  · rw [a] at hr; cases hr
  · rcases h.keys.2 with ⟨b, _⟩ | ⟨g2, cap2, cu2, b1, _, b3, _⟩
    · rw [b] at hk; cases hk
    · rw [a1] at hr
      rw [b1] at hk
      obtain rfl : g1 = g := by simpa [Value.ownBlock] using hr
      obtain rfl : g2 = g1 := by simpa [Value.ownBlock] using hk
      rw [a3] at b3
      have := Option.some.inj b3
      injection this with _ e _
      exact tyV e

/-- Other blocks may turn. -/
theorem RSt.other {w' : World} (h : RSt W0 w ob kd lv kv l ks xs S) (hk : Kp (fun k => k = ob) W0 w') (hs : w.heap.size ≤ w'.heap.size) (hob : w'.heap[ob]? = w.heap[ob]?) (hS : ∀ k, S k → w'.heap[k]? = w.heap[k]?) (h1 : ∀ g, lv.ownBlock = some g → w'.heap[g]? = w.heap[g]?) (h2 : ∀ g, kv.ownBlock = some g → w'.heap[g]? = w.heap[g]?) :
    RSt W0 w' ob kd lv kv l ks xs S where
  blk := hob.trans h.blk
  row := own_stay h.row h1
  vals := h.vals.step hS fun _ x => x
  keys := own_stay h.keys h2
  inS := fun k hk => ⟨(h.inS k hk).1, by have := (h.inS k hk).2; omega⟩
  nrow := h.nrow
  nkey := h.nkey
  kp := hk
  lt := h.lt

theorem RSt.keep {w' : World} (h : RSt W0 w ob kd lv kv l ks xs S) (hk : Kp (fun _ => False) w w') : RSt W0 w' ob kd lv kv l ks xs S := by
  have hs := h.kp.size
  have hl := h.lt
  exact h.other (h.kp.trans (hk.mono fun _ _ x => x.elim)) hk.size (hk.block ob (by omega) (fun x => x)) (fun k hk2 => hk.block k (h.inS k hk2).2 (fun x => x)) (fun g hg => hk.block g (h.row.lt g hg).2 (fun x => x)) (fun g hg => hk.block g (h.keys.lt g hg).2 (fun x => x))
theorem RSt.drew (h : RSt W0 w ob kd lv kv l ks xs S) : RSt W0 w.drew ob kd lv kv l ks xs S := h.keep (Kp.refl _ w).drew
theorem RSt.alloc (h : RSt W0 w ob kd lv kv l ks xs S) (o : Obj) : RSt W0 (w.alloc o) ob kd lv kv l ks xs S := h.keep ((Kp.refl _ w).alloc o)
theorem RSt.obLt (h : RSt W0 w ob kd lv kv l ks xs S) : ob < w.heap.size := Nat.lt_of_lt_of_le h.lt h.kp.size
theorem RSt.far4 (h : RSt W0 w ob kd lv kv l ks xs S) : some ob ≠ lv.ownBlock := fun e => by
  have := (h.row.lt ob e.symm).1
  have := h.lt
  omega
theorem RSt.far5 (h : RSt W0 w ob kd lv kv l ks xs S) : some ob ≠ kv.ownBlock := fun e => by
  have := (h.keys.lt ob e.symm).1
  have := h.lt
  omega

/-- A store into a block that is none of its own. -/
theorem RSt.setFar (h : RSt W0 w ob kd lv kv l ks xs S) {b o : Nat} {v : Value} (hb : W0.heap.size ≤ b) (hS : ¬ S b) (h1 : lv.ownBlock ≠ some b) (h2 : kv.ownBlock ≠ some b) : RSt W0 (w.setCell ⟨b, o, none⟩ v) ob kd lv kv l ks xs S := by
  have hl := h.lt
  exact h.other (h.kp.setCell _ _ _ (.inr hb)) (by simp [World.setCell]) (same_set (by omega)) (fun k hk => same_set (by rintro rfl; exact hS hk)) (fun g hg => same_set (by rintro rfl; exact h1 hg)) (fun g hg => same_set (by rintro rfl; exact h2 hg))

/-- What is reached may be more. -/
theorem RSt.more {S2 : Nat → Prop} {B : Nat} (h : RSt W0 w ob kd lv kv l ks xs S) (hS : ∀ k, S2 k → B ≤ k ∧ k < w.heap.size) (hB : W0.heap.size ≤ B) (h1 : ∀ g, lv.ownBlock = some g → g < B) (h2 : ∀ g, kv.ownBlock = some g → g < B) : RSt W0 w ob kd lv kv l ks xs (fun k => S k ∨ S2 k) where
  blk := h.blk
  row := h.row
  vals := h.vals.step (fun _ _ => rfl) fun _ x => .inl x
  keys := h.keys
  inS := fun k hk => by
    rcases hk with hk | hk
    · exact h.inS k hk
    · have := hS k hk; exact ⟨by omega, this.2⟩
  nrow := fun g hg hk => by
    rcases hk with hk | hk
    · exact h.nrow g hg hk
    · have := h1 g hg; have := (hS g hk).1; omega
  nkey := fun g hg hk => by
    rcases hk with hk | hk
    · exact h.nkey g hg hk
    · have := h2 g hg; have := (hS g hk).1; omega
  kp := h.kp
  lt := h.lt

/-- The list has grown, and is stored. -/
theorem RSt.grow {w1 : World} {g cap n : Nat} {x : Val} {ls kz : Value} {zs : List Value} (hn : l.length = n) (hz : zs = (aggV x ls kz).toList) (h : RSt W0 w ob kd lv kv l ks xs S) (hx : QSubs S w x ls kz)
    (hown : w1.ownsRow W0.heap.size 26 6 (.slice (some ⟨g, 0, none⟩) (n + 1) cap) (n + 1) (xs ++ zs)) (hg : w.grownBy w1 lv.ownBlock) (hat : lv.ownBlock = some g ∨ w.heap.size ≤ g) :
    RSt W0 (w1.setCell ⟨ob, 4, none⟩ (.slice (some ⟨g, 0, none⟩) (n + 1) cap)) ob kd (.slice (some ⟨g, 0, none⟩) (n + 1) cap) kv (l ++ [x]) ks (xs ++ zs) S := by
  subst hn
  have hs := h.kp.size
  have hl := h.lt
  have hgs := hg.size
  have hsame : ∀ k, k < w.heap.size → some k ≠ lv.ownBlock → w1.heap[k]? = w.heap[k]? := fun k hk hne => hg.block k hk hne
  have hlow : ∀ k, k < W0.heap.size → some k ≠ lv.ownBlock := fun k hk e => by have := (h.row.lt k e.symm).1; omega
  have hset : ∀ k, W0.heap.size ≤ k → (w1.setCell ⟨ob, 4, none⟩ (.slice (some ⟨g, 0, none⟩) (l.length + 1) cap)).heap[k]? = w1.heap[k]? := fun k h1 => same_set (by omega)
  have hSs : ∀ k, S k → (w1.setCell ⟨ob, 4, none⟩ (.slice (some ⟨g, 0, none⟩) (l.length + 1) cap)).heap[k]? = w.heap[k]? := fun k hk => (hset k (h.inS k hk).1).trans (hsame k (h.inS k hk).2 fun e => h.nrow k e.symm hk)
  exact {
    blk := set4 ((hsame ob (by omega) h.far4).trans h.blk)
    row := by
      rw [List.length_append, List.length_singleton]
      exact own_stay hown fun g2 hg2 => hset g2 (hown.lt g2 hg2).1
    vals := by rw [hz]; exact (h.vals.step hSs fun _ x => x).snoc (hx.step hSs fun _ x => x)
    keys := own_stay h.keys fun g2 hg2 => (hset g2 (h.keys.lt g2 hg2).1).trans (hsame g2 (h.keys.lt g2 hg2).2 fun e => h.apart g2 e.symm hg2)
    inS := fun k hk => ⟨(h.inS k hk).1, by have := (h.inS k hk).2; simp [World.setCell]; omega⟩
    nrow := fun g2 hg2 hk => by
      have e : g = g2 := by simpa [Value.ownBlock] using hg2
      subst e
      rcases hat with ha | ha
      · exact h.nrow g ha hk
      · have := (h.inS g hk).2; omega
    nkey := h.nkey
    kp := Kp.setCell (w' := w1) ⟨hg.os.trans h.kp.os, hg.tape.trans h.kp.tape, hg.output.trans h.kp.output, by omega, fun k hk hx => (hsame k (by omega) (hlow k hk)).trans (h.kp.block k hk hx)⟩ _ _ _ (.inl rfl)
    lt := hl }

/-- A key more. -/
theorem RSt.key {w1 : World} {g cap n : Nat} {key : ByteArray} (hn : ks.length = n) (h : RSt W0 w ob kd lv kv l ks xs S)
    (hown : w1.ownsRow W0.heap.size 9 1 (.slice (some ⟨g, 0, none⟩) (n + 1) cap) (n + 1) (ks.map Value.string ++ [.string key])) (hg : w.grownBy w1 kv.ownBlock) (hat : kv.ownBlock = some g ∨ w.heap.size ≤ g) :
    RSt W0 (w1.setCell ⟨ob, 5, none⟩ (.slice (some ⟨g, 0, none⟩) (n + 1) cap)) ob kd lv (.slice (some ⟨g, 0, none⟩) (n + 1) cap) l (ks ++ [key]) xs S := by
  subst hn
  have hs := h.kp.size
  have hl := h.lt
  have hgs := hg.size
  have hsame : ∀ k, k < w.heap.size → some k ≠ kv.ownBlock → w1.heap[k]? = w.heap[k]? := fun k hk hne => hg.block k hk hne
  have hlow : ∀ k, k < W0.heap.size → some k ≠ kv.ownBlock := fun k hk e => by have := (h.keys.lt k e.symm).1; omega
  have hset : ∀ k, W0.heap.size ≤ k → (w1.setCell ⟨ob, 5, none⟩ (.slice (some ⟨g, 0, none⟩) (ks.length + 1) cap)).heap[k]? = w1.heap[k]? := fun k h1 => same_set (by omega)
  have hSs : ∀ k, S k → (w1.setCell ⟨ob, 5, none⟩ (.slice (some ⟨g, 0, none⟩) (ks.length + 1) cap)).heap[k]? = w.heap[k]? := fun k hk => (hset k (h.inS k hk).1).trans (hsame k (h.inS k hk).2 fun e => h.nkey k e.symm hk)
  exact {
    blk := set5 ((hsame ob (by omega) h.far5).trans h.blk)
    row := own_stay h.row fun g2 hg2 => (hset g2 (h.row.lt g2 hg2).1).trans (hsame g2 (h.row.lt g2 hg2).2 fun e => h.apart g2 hg2 e.symm)
    vals := h.vals.step hSs fun _ x => x
    keys := by
      rw [List.length_append, List.length_singleton, List.map_append]
      exact own_stay hown fun g2 hg2 => hset g2 (hown.lt g2 hg2).1
    inS := fun k hk => ⟨(h.inS k hk).1, by have := (h.inS k hk).2; simp [World.setCell]; omega⟩
    nrow := h.nrow
    nkey := fun g2 hg2 hk => by
      have e : g = g2 := by simpa [Value.ownBlock] using hg2
      subst e
      rcases hat with ha | ha
      · exact h.nkey g ha hk
      · have := (h.inS g hk).2; omega
    kp := Kp.setCell (w' := w1) ⟨hg.os.trans h.kp.os, hg.tape.trans h.kp.tape, hg.output.trans h.kp.output, by omega, fun k hk hx => (hsame k (by omega) (hlow k hk)).trans (h.kp.block k hk hx)⟩ _ _ _ (.inl rfl)
    lt := hl }

/-- What lies there in the end. -/
theorem RSt.out (h : RSt W0 w ob kd lv kv l ks xs S) : ∃ S2 : Nat → Prop, ValsIn S2 w l lv ∧ KeysIn S2 w ks kv ∧ ∀ k, S2 k → W0.heap.size ≤ k ∧ k < w.heap.size := by
  refine ⟨fun k => S k ∨ lv.ownBlock = some k ∨ kv.ownBlock = some k, ValsIn.of h.row (h.vals.step (fun _ _ => rfl) fun _ hk => .inl hk) (fun g hg => .inr (.inl hg)), KeysIn.of h.keys (fun g hg => .inr (.inr hg)), fun k hk => ?_⟩
  rcases hk with hk | hk | hk
  · exact h.inS k hk
  · exact h.row.lt k hk
  · exact h.keys.lt k hk
end

/-- What Reduced hands back. -/
def RedOut (way : Int) (W : World) (v : Val) (e : Ending) (w' : World) : Prop :=
  ∃ ls kv S, e = .returned (.agg (aggV (clnV (redV way v)) ls kv)) ∧ QSubs S w' (clnV (redV way v)) ls kv ∧ (∀ k, S k → W.heap.size ≤ k ∧ k < w'.heap.size) ∧ Kp (fun _ => False) W w'

theorem snd2 {w : World} {a b : Obj} : ((w.alloc a).alloc b).heap[w.heap.size + 1]? = some b := by
  have := heap_alloc_new (w.alloc a) b
  simpa using this
theorem fst2 {w : World} {a b : Obj} : ((w.alloc a).alloc b).heap[w.heap.size]? = some a := by
  rw [heap_alloc_old _ _ _ (by simp)]
  exact heap_alloc_new w a

set_option maxHeartbeats 6400000 in
set_option maxRecDepth 100000 in
theorem Red_1 {w : World} {way : Int} {i : Int} {r : Nat} {t : ByteArray} {la ka : Option Addr} {nl n1 nk n2 : Nat} {i1 : Int} {r1 : Nat} {t1 : ByteArray} {a1 a2 : Option Addr} {m1 q1 m2 q2 : Nat}
    (hO : ∀ W, Calls Tryz.prog 23 #[.agg #[.int .i64 1, .int .i64 i, .float .f64 r, .string t, .slice la nl n1, .slice ka nk n2]] W fun e w' => e = .returned (.agg #[.int .i64 1, .int .i64 i1, .float .f64 r1, .string t1, .slice a1 m1 q1, .slice a2 m2 q2]) ∧ Kp (fun _ => False) W w') :
    Calls Tryz.prog 12 #[.agg #[.int .i64 1, .int .i64 i, .float .f64 r, .string t, .slice la nl n1, .slice ka nk n2], .int .i64 way] w fun e w' => e = .returned (.agg #[.int .i64 1, .int .i64 i1, .float .f64 r1, .string t1, .slice a1 m1 q1, .slice a2 m2 q2]) ∧ Kp (fun _ => False) w w' := by
  have hst := fun (x : Nat) (a : Addr) (w : World) => store_float x a w
  have hOH := Lib.hid hO
  clear hO
  go_enter Tryz.func12, Tryz.ntmps12
  go_wp2_with (go_at_call 23; refine (hOH.out _).mono ?_; rintro e w2 ⟨rfl, hk2⟩; have hz := hk2.at (b := w.heap.size + 1) (by simp) (fun x => x) snd2; have hb := hk2.at (b := w.heap.size) (by simp; omega) (fun x => x) fst2; have b0 := fun o => cells_alloc hb o 0; have z0 := fun o => cells_alloc hz o 0; have z1 := fun o => cells_alloc hz o 1; have z2 := fun o => cells_alloc hz o 2; have z3 := fun o => cells_alloc hz o 3; have z4 := fun o => cells_alloc hz o 4; have z5 := fun o => cells_alloc hz o 5; have x0 := fun o => free_allocV hz o 0; have x1 := fun o => free_allocV hz o 1; have x2 := fun o => free_allocV hz o 2; have x3 := fun o => free_allocV hz o 3; have x4 := fun o => free_allocV hz o 4; have x5 := fun o => free_allocV hz o 5; simp only [List.getElem?_toArray, List.getElem?_cons_zero, List.getElem?_cons_succ] at b0 z0 z1 z2 z3 z4 z5; have hzH := Lib.hid hz; have hkH := Lib.hid ((((Kp.refl (fun _ => False) w).alloc _).alloc _).trans hk2); clear hz hb hk2)
  have hlt : w.heap.size + 1 < w2.heap.size := (Array.getElem?_eq_some_iff.1 hzH.out).1
  have hW : (w2.alloc (.cells #[.int .i64 1, .int .i64 i1, .float .f64 r1, .string t1, .slice a1 m1 q1, .slice a2 m2 q2] 26)).heap[w.heap.size + 1]? = _ := (heap_alloc_old w2 _ _ hlt).trans hzH.out
  have hfin := set6 (v0 := .int .i64 1) (v1 := .int .i64 i1) (v2 := .float .f64 r1) (v3 := .string t1) (v4 := .slice a1 m1 q1) (v5 := .slice a2 m2 q2) hW
  refine bodyPost_ret (results_block rfl _ _ _ rfl (run_loadVar_row _ _ _ _ _ _ _ hfin Tryz.underlying26 rfl infoV)) rfl ⟨rfl, ?_⟩
  exact ((((((hkH.out.alloc _).setCell _ _ _ (.inr (by omega))).setCell _ _ _ (.inr (by omega))).setCell _ _ _ (.inr (by omega))).setCell _ _ _ (.inr (by omega))).setCell _ _ _ (.inr (by omega))).setCell _ _ _ (.inr (by omega))

set_option maxHeartbeats 6400000 in
set_option maxRecDepth 100000 in
theorem Red_2 {w : World} {way : Int} {i : Int} {r : Nat} {t : ByteArray} {la ka : Option Addr} {nl n1 nk n2 : Nat} {i1 : Int} {r1 : Nat} {t1 : ByteArray} {a1 a2 : Option Addr} {m1 q1 m2 q2 : Nat}
    (hO : ∀ W, Calls Tryz.prog 23 #[.agg #[.int .i64 2, .int .i64 i, .float .f64 r, .string t, .slice la nl n1, .slice ka nk n2]] W fun e w' => e = .returned (.agg #[.int .i64 2, .int .i64 i1, .float .f64 r1, .string t1, .slice a1 m1 q1, .slice a2 m2 q2]) ∧ Kp (fun _ => False) W w') :
    Calls Tryz.prog 12 #[.agg #[.int .i64 2, .int .i64 i, .float .f64 r, .string t, .slice la nl n1, .slice ka nk n2], .int .i64 way] w fun e w' => e = .returned (.agg #[.int .i64 2, .int .i64 i1, .float .f64 r1, .string t1, .slice a1 m1 q1, .slice a2 m2 q2]) ∧ Kp (fun _ => False) w w' := by
  have hst := fun (x : Nat) (a : Addr) (w : World) => store_float x a w
  have hOH := Lib.hid hO
  clear hO
  go_enter Tryz.func12, Tryz.ntmps12
  go_wp2_with (go_at_call 23; refine (hOH.out _).mono ?_; rintro e w2 ⟨rfl, hk2⟩; have hz := hk2.at (b := w.heap.size + 1) (by simp) (fun x => x) snd2; have hb := hk2.at (b := w.heap.size) (by simp; omega) (fun x => x) fst2; have b0 := fun o => cells_alloc hb o 0; have z0 := fun o => cells_alloc hz o 0; have z1 := fun o => cells_alloc hz o 1; have z2 := fun o => cells_alloc hz o 2; have z3 := fun o => cells_alloc hz o 3; have z4 := fun o => cells_alloc hz o 4; have z5 := fun o => cells_alloc hz o 5; have x0 := fun o => free_allocV hz o 0; have x1 := fun o => free_allocV hz o 1; have x2 := fun o => free_allocV hz o 2; have x3 := fun o => free_allocV hz o 3; have x4 := fun o => free_allocV hz o 4; have x5 := fun o => free_allocV hz o 5; simp only [List.getElem?_toArray, List.getElem?_cons_zero, List.getElem?_cons_succ] at b0 z0 z1 z2 z3 z4 z5; have hzH := Lib.hid hz; have hkH := Lib.hid ((((Kp.refl (fun _ => False) w).alloc _).alloc _).trans hk2); clear hz hb hk2)
  have hlt : w.heap.size + 1 < w2.heap.size := (Array.getElem?_eq_some_iff.1 hzH.out).1
  have hW : (w2.alloc (.cells #[.int .i64 2, .int .i64 i1, .float .f64 r1, .string t1, .slice a1 m1 q1, .slice a2 m2 q2] 26)).heap[w.heap.size + 1]? = _ := (heap_alloc_old w2 _ _ hlt).trans hzH.out
  have hfin := set6 (v0 := .int .i64 2) (v1 := .int .i64 i1) (v2 := .float .f64 r1) (v3 := .string t1) (v4 := .slice a1 m1 q1) (v5 := .slice a2 m2 q2) hW
  refine bodyPost_ret (results_block rfl _ _ _ rfl (run_loadVar_row _ _ _ _ _ _ _ hfin Tryz.underlying26 rfl infoV)) rfl ⟨rfl, ?_⟩
  exact ((((((hkH.out.alloc _).setCell _ _ _ (.inr (by omega))).setCell _ _ _ (.inr (by omega))).setCell _ _ _ (.inr (by omega))).setCell _ _ _ (.inr (by omega))).setCell _ _ _ (.inr (by omega))).setCell _ _ _ (.inr (by omega))

set_option maxHeartbeats 6400000 in
set_option maxRecDepth 100000 in
theorem Red_3 {w : World} {way : Int} {i : Int} {r : Nat} {t : ByteArray} {la ka : Option Addr} {nl n1 nk n2 : Nat} {i1 : Int} {r1 : Nat} {t1 : ByteArray} {a1 a2 : Option Addr} {m1 q1 m2 q2 : Nat}
    (hO : ∀ W, Calls Tryz.prog 23 #[.agg #[.int .i64 3, .int .i64 i, .float .f64 r, .string t, .slice la nl n1, .slice ka nk n2]] W fun e w' => e = .returned (.agg #[.int .i64 3, .int .i64 i1, .float .f64 r1, .string t1, .slice a1 m1 q1, .slice a2 m2 q2]) ∧ Kp (fun _ => False) W w') :
    Calls Tryz.prog 12 #[.agg #[.int .i64 3, .int .i64 i, .float .f64 r, .string t, .slice la nl n1, .slice ka nk n2], .int .i64 way] w fun e w' => e = .returned (.agg #[.int .i64 3, .int .i64 i1, .float .f64 r1, .string t1, .slice a1 m1 q1, .slice a2 m2 q2]) ∧ Kp (fun _ => False) w w' := by
  have hst := fun (x : Nat) (a : Addr) (w : World) => store_float x a w
  have hOH := Lib.hid hO
  clear hO
  go_enter Tryz.func12, Tryz.ntmps12
  go_wp2_with (go_at_call 23; refine (hOH.out _).mono ?_; rintro e w2 ⟨rfl, hk2⟩; have hz := hk2.at (b := w.heap.size + 1) (by simp) (fun x => x) snd2; have hb := hk2.at (b := w.heap.size) (by simp; omega) (fun x => x) fst2; have b0 := fun o => cells_alloc hb o 0; have z0 := fun o => cells_alloc hz o 0; have z1 := fun o => cells_alloc hz o 1; have z2 := fun o => cells_alloc hz o 2; have z3 := fun o => cells_alloc hz o 3; have z4 := fun o => cells_alloc hz o 4; have z5 := fun o => cells_alloc hz o 5; have x0 := fun o => free_allocV hz o 0; have x1 := fun o => free_allocV hz o 1; have x2 := fun o => free_allocV hz o 2; have x3 := fun o => free_allocV hz o 3; have x4 := fun o => free_allocV hz o 4; have x5 := fun o => free_allocV hz o 5; simp only [List.getElem?_toArray, List.getElem?_cons_zero, List.getElem?_cons_succ] at b0 z0 z1 z2 z3 z4 z5; have hzH := Lib.hid hz; have hkH := Lib.hid ((((Kp.refl (fun _ => False) w).alloc _).alloc _).trans hk2); clear hz hb hk2)
  have hlt : w.heap.size + 1 < w2.heap.size := (Array.getElem?_eq_some_iff.1 hzH.out).1
  have hW : (w2.alloc (.cells #[.int .i64 3, .int .i64 i1, .float .f64 r1, .string t1, .slice a1 m1 q1, .slice a2 m2 q2] 26)).heap[w.heap.size + 1]? = _ := (heap_alloc_old w2 _ _ hlt).trans hzH.out
  have hfin := set6 (v0 := .int .i64 3) (v1 := .int .i64 i1) (v2 := .float .f64 r1) (v3 := .string t1) (v4 := .slice a1 m1 q1) (v5 := .slice a2 m2 q2) hW
  refine bodyPost_ret (results_block rfl _ _ _ rfl (run_loadVar_row _ _ _ _ _ _ _ hfin Tryz.underlying26 rfl infoV)) rfl ⟨rfl, ?_⟩
  exact ((((((hkH.out.alloc _).setCell _ _ _ (.inr (by omega))).setCell _ _ _ (.inr (by omega))).setCell _ _ _ (.inr (by omega))).setCell _ _ _ (.inr (by omega))).setCell _ _ _ (.inr (by omega))).setCell _ _ _ (.inr (by omega))

set_option maxHeartbeats 6400000 in
set_option maxRecDepth 100000 in
theorem Red_4 {w : World} {way : Int} {i : Int} {r : Nat} {t : ByteArray} {la ka : Option Addr} {nl n1 nk n2 : Nat} {i1 : Int} {r1 : Nat} {t1 : ByteArray} {a1 a2 : Option Addr} {m1 q1 m2 q2 : Nat}
    (hO : ∀ W, Calls Tryz.prog 23 #[.agg #[.int .i64 4, .int .i64 i, .float .f64 r, .string t, .slice la nl n1, .slice ka nk n2]] W fun e w' => e = .returned (.agg #[.int .i64 4, .int .i64 i1, .float .f64 r1, .string t1, .slice a1 m1 q1, .slice a2 m2 q2]) ∧ Kp (fun _ => False) W w') :
    Calls Tryz.prog 12 #[.agg #[.int .i64 4, .int .i64 i, .float .f64 r, .string t, .slice la nl n1, .slice ka nk n2], .int .i64 way] w fun e w' => e = .returned (.agg #[.int .i64 4, .int .i64 i1, .float .f64 r1, .string t1, .slice a1 m1 q1, .slice a2 m2 q2]) ∧ Kp (fun _ => False) w w' := by
  have hst := fun (x : Nat) (a : Addr) (w : World) => store_float x a w
  have hOH := Lib.hid hO
  clear hO
  go_enter Tryz.func12, Tryz.ntmps12
  go_wp2_with (go_at_call 23; refine (hOH.out _).mono ?_; rintro e w2 ⟨rfl, hk2⟩; have hz := hk2.at (b := w.heap.size + 1) (by simp) (fun x => x) snd2; have hb := hk2.at (b := w.heap.size) (by simp; omega) (fun x => x) fst2; have b0 := fun o => cells_alloc hb o 0; have z0 := fun o => cells_alloc hz o 0; have z1 := fun o => cells_alloc hz o 1; have z2 := fun o => cells_alloc hz o 2; have z3 := fun o => cells_alloc hz o 3; have z4 := fun o => cells_alloc hz o 4; have z5 := fun o => cells_alloc hz o 5; have x0 := fun o => free_allocV hz o 0; have x1 := fun o => free_allocV hz o 1; have x2 := fun o => free_allocV hz o 2; have x3 := fun o => free_allocV hz o 3; have x4 := fun o => free_allocV hz o 4; have x5 := fun o => free_allocV hz o 5; simp only [List.getElem?_toArray, List.getElem?_cons_zero, List.getElem?_cons_succ] at b0 z0 z1 z2 z3 z4 z5; have hzH := Lib.hid hz; have hkH := Lib.hid ((((Kp.refl (fun _ => False) w).alloc _).alloc _).trans hk2); clear hz hb hk2)
  have hlt : w.heap.size + 1 < w2.heap.size := (Array.getElem?_eq_some_iff.1 hzH.out).1
  have hW : (w2.alloc (.cells #[.int .i64 4, .int .i64 i1, .float .f64 r1, .string t1, .slice a1 m1 q1, .slice a2 m2 q2] 26)).heap[w.heap.size + 1]? = _ := (heap_alloc_old w2 _ _ hlt).trans hzH.out
  have hfin := set6 (v0 := .int .i64 4) (v1 := .int .i64 i1) (v2 := .float .f64 r1) (v3 := .string t1) (v4 := .slice a1 m1 q1) (v5 := .slice a2 m2 q2) hW
  refine bodyPost_ret (results_block rfl _ _ _ rfl (run_loadVar_row _ _ _ _ _ _ _ hfin Tryz.underlying26 rfl infoV)) rfl ⟨rfl, ?_⟩
  exact ((((((hkH.out.alloc _).setCell _ _ _ (.inr (by omega))).setCell _ _ _ (.inr (by omega))).setCell _ _ _ (.inr (by omega))).setCell _ _ _ (.inr (by omega))).setCell _ _ _ (.inr (by omega))).setCell _ _ _ (.inr (by omega))

set_option maxHeartbeats 6400000 in
set_option maxRecDepth 100000 in
theorem Red_5 {w : World} {way : Int} {i : Int} {r : Nat} {t : ByteArray} {la ka : Option Addr} {nl n1 nk n2 : Nat} {i1 : Int} {r1 : Nat} {t1 : ByteArray} {a1 a2 : Option Addr} {m1 q1 m2 q2 : Nat}
    (hO : ∀ W, Calls Tryz.prog 23 #[.agg #[.int .i64 5, .int .i64 i, .float .f64 r, .string t, .slice la nl n1, .slice ka nk n2]] W fun e w' => e = .returned (.agg #[.int .i64 5, .int .i64 i1, .float .f64 r1, .string t1, .slice a1 m1 q1, .slice a2 m2 q2]) ∧ Kp (fun _ => False) W w') :
    Calls Tryz.prog 12 #[.agg #[.int .i64 5, .int .i64 i, .float .f64 r, .string t, .slice la nl n1, .slice ka nk n2], .int .i64 way] w fun e w' => e = .returned (.agg #[.int .i64 5, .int .i64 i1, .float .f64 r1, .string t1, .slice a1 m1 q1, .slice a2 m2 q2]) ∧ Kp (fun _ => False) w w' := by
  have hst := fun (x : Nat) (a : Addr) (w : World) => store_float x a w
  have hOH := Lib.hid hO
  clear hO
  go_enter Tryz.func12, Tryz.ntmps12
  go_wp2_with (go_at_call 23; refine (hOH.out _).mono ?_; rintro e w2 ⟨rfl, hk2⟩; have hz := hk2.at (b := w.heap.size + 1) (by simp) (fun x => x) snd2; have hb := hk2.at (b := w.heap.size) (by simp; omega) (fun x => x) fst2; have b0 := fun o => cells_alloc hb o 0; have z0 := fun o => cells_alloc hz o 0; have z1 := fun o => cells_alloc hz o 1; have z2 := fun o => cells_alloc hz o 2; have z3 := fun o => cells_alloc hz o 3; have z4 := fun o => cells_alloc hz o 4; have z5 := fun o => cells_alloc hz o 5; have x0 := fun o => free_allocV hz o 0; have x1 := fun o => free_allocV hz o 1; have x2 := fun o => free_allocV hz o 2; have x3 := fun o => free_allocV hz o 3; have x4 := fun o => free_allocV hz o 4; have x5 := fun o => free_allocV hz o 5; simp only [List.getElem?_toArray, List.getElem?_cons_zero, List.getElem?_cons_succ] at b0 z0 z1 z2 z3 z4 z5; have hzH := Lib.hid hz; have hkH := Lib.hid ((((Kp.refl (fun _ => False) w).alloc _).alloc _).trans hk2); clear hz hb hk2)
  have hlt : w.heap.size + 1 < w2.heap.size := (Array.getElem?_eq_some_iff.1 hzH.out).1
  have hW : (w2.alloc (.cells #[.int .i64 5, .int .i64 i1, .float .f64 r1, .string t1, .slice a1 m1 q1, .slice a2 m2 q2] 26)).heap[w.heap.size + 1]? = _ := (heap_alloc_old w2 _ _ hlt).trans hzH.out
  have hfin := set6 (v0 := .int .i64 5) (v1 := .int .i64 i1) (v2 := .float .f64 r1) (v3 := .string t1) (v4 := .slice a1 m1 q1) (v5 := .slice a2 m2 q2) hW
  refine bodyPost_ret (results_block rfl _ _ _ rfl (run_loadVar_row _ _ _ _ _ _ _ hfin Tryz.underlying26 rfl infoV)) rfl ⟨rfl, ?_⟩
  exact ((((((hkH.out.alloc _).setCell _ _ _ (.inr (by omega))).setCell _ _ _ (.inr (by omega))).setCell _ _ _ (.inr (by omega))).setCell _ _ _ (.inr (by omega))).setCell _ _ _ (.inr (by omega))).setCell _ _ _ (.inr (by omega))

end Go.Proofs.YtokmkkkanphihaaGreatRDoor

/- spec.Reduced of a list and of an object (written by genRe.py). -/
namespace Go.Proofs.YtokmkkkanphihaaGreatRDoor
open Go.RowKit Go.Sort

theorem redL_len (way : Int) : ∀ l : List Val, (redL way l).length ≤ l.length
  | [] => by simp [redL]
  | v :: vs => by
    have := redL_len way vs
    rw [redL_cons, List.length_append, List.length_cons]
    cases item way v <;> simp <;> omega

theorem info_str : (Tryz.prog.info? 9).map (fun i => (i.zero, i.size, i.bytes)) = some (some (.string ⟨#[]⟩), 1, 16) := by kernel_rfl

theorem str_oneK (k : ByteArray) : ∀ u ∈ [Value.string k], u.oneCell' = true := by
  intro u hu
  simp at hu
  subst hu
  rfl

theorem redK_step (way : Int) {l : List Val} {ks : List ByteArray} {j : Nat} {z : Val} {key : ByteArray} (h : l.take (j + 1) = l.take j ++ [z]) (hk : ks.take (j + 1) = ks.take j ++ [key]) (hj : j ≤ l.length) (hkj : j ≤ ks.length) :
    redK way (l.take (j + 1)) (ks.take (j + 1)) = redK way (l.take j) (ks.take j) ++ (if way = 1 ∧ emptyV z = true then [] else [key]) := by
  have e : (l.take j).length = j := by rw [List.length_take]; omega
  have e2 : (ks.take j).length = j := by rw [List.length_take]; omega
  rw [h, hk, redK_append _ _ _ _ (by rw [e, List.length_append, e2]; omega), e]
  have a : (ks.take j ++ [key]).take j = ks.take j := by
    rw [List.take_append_of_le_length (by omega)]
    exact List.take_of_length_le (by omega)
  have b : (ks.take j ++ [key]).drop j = [key] := by
    rw [List.drop_append_of_le_length (by omega), List.drop_of_length_le (by omega)]; rfl
  rw [a, b]
  simp [redK]

end Go.Proofs.YtokmkkkanphihaaGreatRDoor
