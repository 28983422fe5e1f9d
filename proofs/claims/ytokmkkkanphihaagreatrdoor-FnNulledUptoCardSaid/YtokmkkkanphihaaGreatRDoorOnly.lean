/- spec.IsEmpty, spec.Only (written by genOn.py). -/
import Derived.Test.YtokmkkkanphihaaGreatRDoorQVal
import Derived.Test.YtokmkkkanphihaaGreatRDoorPutD
import Derived.Test.YtokmkkkanphihaaGreatRDoorRow
import Derived.Deep.RegionLaw
namespace Go.Proofs.YtokmkkkanphihaaGreatRDoor
open Go.RowKit Go.Sort

theorem store_float (x : Nat) (a : Addr) (w : World) : (store a (.float .f64 x)).run Tryz.prog w = stored Tryz.prog w a (.float .f64 x) .plain := run_store Tryz.prog w a _ _ rfl

/-- What IsEmpty says. -/
def EmptyOut (w : World) (b : Bool) (e : Ending) (w' : World) : Prop := e = .returned (.bool b) ∧ Kp (fun _ => False) w w'

set_option maxHeartbeats 3200000 in
set_option maxRecDepth 100000 in
theorem IsEmpty_1 {w : World} {i : Int} {r : Nat} {t : ByteArray} {la ka : Option Addr} {nl n1 nk n2 : Nat} :
    Calls Tryz.prog 24 #[.agg #[.int .i64 1, .int .i64 i, .float .f64 r, .string t, .slice la nl n1, .slice ka nk n2]] w (EmptyOut w false) := by
  go_enter Tryz.func24, Tryz.ntmps24
  go_wp2_with fail
  go_ret
  exact ⟨rfl, (Kp.refl _ w).alloc _⟩

set_option maxHeartbeats 3200000 in
set_option maxRecDepth 100000 in
theorem IsEmpty_2 {w : World} {i : Int} {r : Nat} {t : ByteArray} {la ka : Option Addr} {nl n1 nk n2 : Nat} :
    Calls Tryz.prog 24 #[.agg #[.int .i64 2, .int .i64 i, .float .f64 r, .string t, .slice la nl n1, .slice ka nk n2]] w (EmptyOut w (i == 0)) := by
  go_enter Tryz.func24, Tryz.ntmps24
  go_wp2_with fail
  go_ret
  exact ⟨rfl, (Kp.refl _ w).alloc _⟩

set_option maxHeartbeats 3200000 in
set_option maxRecDepth 100000 in
theorem IsEmpty_3 {w : World} {i : Int} {r : Nat} {t : ByteArray} {la ka : Option Addr} {nl n1 nk n2 : Nat} :
    Calls Tryz.prog 24 #[.agg #[.int .i64 3, .int .i64 i, .float .f64 r, .string t, .slice la nl n1, .slice ka nk n2]] w (EmptyOut w (i == 0)) := by
  go_enter Tryz.func24, Tryz.ntmps24
  go_wp2_with fail
  go_ret
  exact ⟨rfl, (Kp.refl _ w).alloc _⟩

set_option maxHeartbeats 3200000 in
set_option maxRecDepth 100000 in
theorem IsEmpty_4 {w : World} {i : Int} {r : Nat} {t : ByteArray} {la ka : Option Addr} {nl n1 nk n2 : Nat} {b : Bool} (hb : (FloatKind.f64.format.order r 0 == some .eq) = b) :
    Calls Tryz.prog 24 #[.agg #[.int .i64 4, .int .i64 i, .float .f64 r, .string t, .slice la nl n1, .slice ka nk n2]] w (EmptyOut w b) := by
  go_enter Tryz.func24, Tryz.ntmps24
  go_wp2_with fail
  go_ret
  exact ⟨rfl, (Kp.refl _ w).alloc _⟩

set_option maxHeartbeats 3200000 in
set_option maxRecDepth 100000 in
theorem IsEmpty_5 {w : World} {i : Int} {r : Nat} {t : ByteArray} {la ka : Option Addr} {nl n1 nk n2 : Nat} :
    Calls Tryz.prog 24 #[.agg #[.int .i64 5, .int .i64 i, .float .f64 r, .string t, .slice la nl n1, .slice ka nk n2]] w (EmptyOut w (t.toList == [])) := by
  go_enter Tryz.func24, Tryz.ntmps24
  go_wp2_with fail
  go_ret
  exact ⟨congrArg (fun b => Ending.returned (.bool b)) (by simp), (Kp.refl _ w).alloc _⟩

set_option maxHeartbeats 3200000 in
set_option maxRecDepth 100000 in
theorem IsEmpty_6 {w : World} {i : Int} {r : Nat} {t : ByteArray} {la ka : Option Addr} {nl n1 nk n2 : Nat} :
    Calls Tryz.prog 24 #[.agg #[.int .i64 6, .int .i64 i, .float .f64 r, .string t, .slice la nl n1, .slice ka nk n2]] w (EmptyOut w (nl == 0)) := by
  go_enter Tryz.func24, Tryz.ntmps24
  go_wp2_with fail
  go_ret
  exact ⟨congrArg (fun b => Ending.returned (.bool b)) (by rw [Bool.eq_iff_iff]; simp), (Kp.refl _ w).alloc _⟩

set_option maxHeartbeats 3200000 in
set_option maxRecDepth 100000 in
theorem IsEmpty_7 {w : World} {i : Int} {r : Nat} {t : ByteArray} {la ka : Option Addr} {nl n1 nk n2 : Nat} :
    Calls Tryz.prog 24 #[.agg #[.int .i64 7, .int .i64 i, .float .f64 r, .string t, .slice la nl n1, .slice ka nk n2]] w (EmptyOut w (nl == 0)) := by
  go_enter Tryz.func24, Tryz.ntmps24
  go_wp2_with fail
  go_ret
  exact ⟨congrArg (fun b => Ending.returned (.bool b)) (by rw [Bool.eq_iff_iff]; simp), (Kp.refl _ w).alloc _⟩

theorem toList_nil (t : ByteArray) : (t.toList == []) = (t.size == 0) := by
  have h : t.toList.length = t.size := by rw [ByteArray.toList_eq]; rfl
  cases e : t.toList with
  | nil => rw [e] at h; simp at h; simp [← h]
  | cons a b => rw [e] at h; simp at h; simp [← h]

theorem IsEmpty_any {w : World} {v : Val} {ls kv : Value} {N : Nat} (hG : Good v) (hS : Subs N w v ls kv) :
    Calls Tryz.prog 24 #[.agg (aggV v ls kv)] w (EmptyOut w (emptyV v)) := by
  obtain ⟨k, i, r, t, l, ks⟩ := v
  simp only [Good] at hG
  obtain ⟨⟨hk1, hk7⟩, _, hr, _⟩ := hG
  obtain ⟨⟨ao, c, rfl, _⟩, ⟨ako, ck, rfl, _⟩⟩ := hS
  have hl : (l.length == 0) = l.isEmpty := by cases l <;> rfl
  have hcases : k = 1 ∨ k = 2 ∨ k = 3 ∨ k = 4 ∨ k = 5 ∨ k = 6 ∨ k = 7 := by omega
  rcases hcases with rfl | rfl | rfl | rfl | rfl | rfl | rfl
  · exact IsEmpty_1
  · exact IsEmpty_2
  · exact IsEmpty_3
  · refine IsEmpty_4 ?_
    show _ = zeroW r
    cases hz : zeroW r
    · exact order_ne (realT_spec (hr rfl)) hz
    · exact order_zero hz
  · have e : emptyV (.mk 5 i r t l ks) = (t.toList == []) := by
      rw [toList_nil]
      rfl
    rw [e]
    exact IsEmpty_5
  · have e : emptyV (.mk 6 i r t l ks) = (l.length == 0) := hl.symm
    rw [e]
    exact IsEmpty_6
  · have e : emptyV (.mk 7 i r t l ks) = (l.length == 0) := hl.symm
    rw [e]
    exact IsEmpty_7

theorem infoV : (Tryz.prog.info? 26).map (·.size) = some 6 := by kernel_rfl
theorem info_val : (Tryz.prog.info? 26).map (fun i => (i.zero, i.size, i.bytes)) = some (some (.agg #[.int .i64 0, .int .i64 0, .float .f64 0, .string ⟨#[]⟩, .slice none 0 0, .slice none 0 0]), 6, 88) := by kernel_rfl
theorem third {w : World} {a b c : Obj} : (((w.alloc a).alloc b).alloc c).heap[w.heap.size + 1]? = some b := by
  rw [heap_alloc_old _ _ _ (by simp)]
  have := heap_alloc_new (w.alloc a) b
  simpa using this

/-- While a list is filled: the block ob that bears it. -/
structure OSt (W0 w : World) (ob : Nat) (c0 c1 c2 c3 kv lv : Value) (m : Nat) (xs : List Value) : Prop where
  blk : w.heap[ob]? = some (.cells #[c0, c1, c2, c3, lv, kv] 26 (0, 0))
  row : w.ownsRow W0.heap.size 26 6 lv m xs
  kp : Kp (fun k => k = ob) W0 w
  lt : ob < W0.heap.size

section
variable {W0 w : World} {ob : Nat} {c0 c1 c2 c3 kv lv : Value} {m : Nat} {xs : List Value}
theorem OSt.keep {w' : World} (h : OSt W0 w ob c0 c1 c2 c3 kv lv m xs) (hk : Kp (fun _ => False) w w') : OSt W0 w' ob c0 c1 c2 c3 kv lv m xs where
  blk := (hk.block ob (Nat.lt_of_lt_of_le h.lt h.kp.size) (fun x => x)).trans h.blk
  row := own_stay h.row fun g hg => hk.block g (h.row.lt g hg).2 (fun x => x)
  kp := h.kp.trans (hk.mono fun _ _ x => x.elim)
  lt := h.lt
theorem OSt.drew (h : OSt W0 w ob c0 c1 c2 c3 kv lv m xs) : OSt W0 w.drew ob c0 c1 c2 c3 kv lv m xs := h.keep (Kp.refl _ w).drew
theorem OSt.alloc (h : OSt W0 w ob c0 c1 c2 c3 kv lv m xs) (o : Obj) : OSt W0 (w.alloc o) ob c0 c1 c2 c3 kv lv m xs := h.keep ((Kp.refl _ w).alloc o)
theorem set4 {W : World} {b : Nat} {t : TypeId} {u0 u1 u2 u3 u4 u5 v : Value} (h : W.heap[b]? = some (.cells #[u0, u1, u2, u3, u4, u5] t (0, 0))) :
    (W.setCell ⟨b, 4, none⟩ v).heap[b]? = some (.cells #[u0, u1, u2, u3, v, u5] t (0, 0)) := by
  simp [World.setCell, Array.getElem?_modify, h]
theorem set5 {W : World} {b : Nat} {t : TypeId} {u0 u1 u2 u3 u4 u5 v : Value} (h : W.heap[b]? = some (.cells #[u0, u1, u2, u3, u4, u5] t (0, 0))) :
    (W.setCell ⟨b, 5, none⟩ v).heap[b]? = some (.cells #[u0, u1, u2, u3, u4, v] t (0, 0)) := by
  simp [World.setCell, Array.getElem?_modify, h]
theorem OSt.far (h : OSt W0 w ob c0 c1 c2 c3 kv lv m xs) : some ob ≠ lv.ownBlock := fun e => by
  have := (h.row.lt ob e.symm).1
  have := h.lt
  omega
/-- The row has grown, and is stored. -/
theorem OSt.grow {w1 : World} {g cap n : Nat} {zs : List Value} (h : OSt W0 w ob c0 c1 c2 c3 kv lv m xs) (hown : w1.ownsRow W0.heap.size 26 6 (.slice (some ⟨g, 0, none⟩) n cap) n (xs ++ zs)) (hg : w.grownBy w1 lv.ownBlock) :
    OSt W0 (w1.setCell ⟨ob, 4, none⟩ (.slice (some ⟨g, 0, none⟩) n cap)) ob c0 c1 c2 c3 kv (.slice (some ⟨g, 0, none⟩) n cap) n (xs ++ zs) := by
  have hs := h.kp.size
  have hl := h.lt
  exact {
    blk := set4 ((hg.block ob (by omega) h.far).trans h.blk)
    row := own_stay hown fun g2 hg2 => same_set (by have := (hown.lt g2 hg2).1; omega)
    kp := Kp.setCell (w' := w1) ⟨hg.os.trans h.kp.os, hg.tape.trans h.kp.tape, hg.output.trans h.kp.output, by have := hg.size; omega, fun k hk hx => (hg.block k (by omega) (fun e => by have := (h.row.lt k e.symm).1; omega)).trans (h.kp.block k hk hx)⟩ _ _ _ (.inl rfl)
    lt := hl }
end

theorem six_one (k i : Int) (r : Nat) (t : ByteArray) (a1 : Option Addr) (n1 q1 : Nat) (a2 : Option Addr) (n2 q2 : Nat) : ∀ u ∈ [Value.int .i64 k, .int .i64 i, .float .f64 r, .string t, .slice a1 n1 q1, .slice a2 n2 q2], u.oneCell' = true := by
  intro u hu
  simp at hu
  rcases hu with rfl | rfl | rfl | rfl | rfl | rfl <;> rfl

theorem free_allocV {w : World} {b : Nat} {cs : Array Value} {t : TypeId} (h : w.heap[b]? = some (.cells cs t (0, 0))) (o : Obj) (j : Nat) : (w.alloc o).frozen? ⟨b, j, none⟩ = false :=
  free_of ((heap_alloc_old w o b (Array.getElem?_eq_some_iff.1 h).1).trans h) j

/-- What Only leaves of whatever value. -/
def OnlyOut (W : World) (e : Ending) (w' : World) : Prop :=
  ∃ k i r t a1 n1 q1 a2 n2 q2, e = .returned (.agg #[.int .i64 k, .int .i64 i, .float .f64 r, .string t, .slice a1 n1 q1, .slice a2 n2 q2]) ∧ Kp (fun _ => False) W w'

set_option maxHeartbeats 3200000 in
set_option maxRecDepth 100000 in
theorem Only_1 {w : World} {i : Int} {r : Nat} {t : ByteArray} {la ka : Option Addr} {nl n1 nk n2 : Nat} :
    Calls Tryz.prog 23 #[.agg #[.int .i64 1, .int .i64 i, .float .f64 r, .string t, .slice la nl n1, .slice ka nk n2]] w fun e w' => e = .returned (.agg #[.int .i64 1, .int .i64 0, .float .f64 0, .string ⟨#[]⟩, .slice none 0 0, .slice none 0 0]) ∧ Kp (fun _ => False) w w' := by
  have hst := fun (x : Nat) (a : Addr) (w : World) => store_float x a w
  go_enter Tryz.func23, Tryz.ntmps23
  go_wp2_with fail
  refine bodyPost_ret (results_block rfl _ _ _ rfl (run_loadVar_row _ (w.heap.size + 1) _ _ _ _ _ third Tryz.underlying26 rfl infoV)) rfl ⟨rfl, (((Kp.refl _ w).alloc _).alloc _).alloc _⟩

set_option maxHeartbeats 3200000 in
set_option maxRecDepth 100000 in
theorem Only_2 {w : World} {i : Int} {r : Nat} {t : ByteArray} {la ka : Option Addr} {nl n1 nk n2 : Nat} :
    Calls Tryz.prog 23 #[.agg #[.int .i64 2, .int .i64 i, .float .f64 r, .string t, .slice la nl n1, .slice ka nk n2]] w fun e w' => e = .returned (.agg #[.int .i64 2, .int .i64 i, .float .f64 0, .string ⟨#[]⟩, .slice none 0 0, .slice none 0 0]) ∧ Kp (fun _ => False) w w' := by
  have hst := fun (x : Nat) (a : Addr) (w : World) => store_float x a w
  go_enter Tryz.func23, Tryz.ntmps23
  go_wp2_with fail
  refine bodyPost_ret (results_block rfl _ _ _ rfl (run_loadVar_row _ (w.heap.size + 1) _ _ _ _ _ third Tryz.underlying26 rfl infoV)) rfl ⟨rfl, (((Kp.refl _ w).alloc _).alloc _).alloc _⟩

set_option maxHeartbeats 3200000 in
set_option maxRecDepth 100000 in
theorem Only_3 {w : World} {i : Int} {r : Nat} {t : ByteArray} {la ka : Option Addr} {nl n1 nk n2 : Nat} :
    Calls Tryz.prog 23 #[.agg #[.int .i64 3, .int .i64 i, .float .f64 r, .string t, .slice la nl n1, .slice ka nk n2]] w fun e w' => e = .returned (.agg #[.int .i64 3, .int .i64 i, .float .f64 0, .string ⟨#[]⟩, .slice none 0 0, .slice none 0 0]) ∧ Kp (fun _ => False) w w' := by
  have hst := fun (x : Nat) (a : Addr) (w : World) => store_float x a w
  go_enter Tryz.func23, Tryz.ntmps23
  go_wp2_with fail
  refine bodyPost_ret (results_block rfl _ _ _ rfl (run_loadVar_row _ (w.heap.size + 1) _ _ _ _ _ third Tryz.underlying26 rfl infoV)) rfl ⟨rfl, (((Kp.refl _ w).alloc _).alloc _).alloc _⟩

set_option maxHeartbeats 3200000 in
set_option maxRecDepth 100000 in
theorem Only_4 {w : World} {i : Int} {r : Nat} {t : ByteArray} {la ka : Option Addr} {nl n1 nk n2 : Nat} :
    Calls Tryz.prog 23 #[.agg #[.int .i64 4, .int .i64 i, .float .f64 r, .string t, .slice la nl n1, .slice ka nk n2]] w fun e w' => e = .returned (.agg #[.int .i64 4, .int .i64 0, .float .f64 r, .string ⟨#[]⟩, .slice none 0 0, .slice none 0 0]) ∧ Kp (fun _ => False) w w' := by
  have hst := fun (x : Nat) (a : Addr) (w : World) => store_float x a w
  go_enter Tryz.func23, Tryz.ntmps23
  go_wp2_with fail
  refine bodyPost_ret (results_block rfl _ _ _ rfl (run_loadVar_row _ (w.heap.size + 1) _ _ _ _ _ third Tryz.underlying26 rfl infoV)) rfl ⟨rfl, (((Kp.refl _ w).alloc _).alloc _).alloc _⟩

set_option maxHeartbeats 3200000 in
set_option maxRecDepth 100000 in
theorem Only_5 {w : World} {i : Int} {r : Nat} {t : ByteArray} {la ka : Option Addr} {nl n1 nk n2 : Nat} :
    Calls Tryz.prog 23 #[.agg #[.int .i64 5, .int .i64 i, .float .f64 r, .string t, .slice la nl n1, .slice ka nk n2]] w fun e w' => e = .returned (.agg #[.int .i64 5, .int .i64 0, .float .f64 0, .string t, .slice none 0 0, .slice none 0 0]) ∧ Kp (fun _ => False) w w' := by
  have hst := fun (x : Nat) (a : Addr) (w : World) => store_float x a w
  go_enter Tryz.func23, Tryz.ntmps23
  go_wp2_with fail
  refine bodyPost_ret (results_block rfl _ _ _ rfl (run_loadVar_row _ (w.heap.size + 1) _ _ _ _ _ third Tryz.underlying26 rfl infoV)) rfl ⟨rfl, (((Kp.refl _ w).alloc _).alloc _).alloc _⟩

set_option maxHeartbeats 3200000 in
set_option maxRecDepth 100000 in
theorem Only_6 {w : World} {i : Int} {r : Nat} {t : ByteArray} {l : List Val} {lb ka : Option Addr} {n1 nk n2 N : Nat} (hll : l.length ≤ lim) (hlr : 88 * (l.length + 1) ≤ 140737488355328) (hL : l = [] ∨ ∃ b2 o2, lb = some ⟨b2, o2, none⟩ ∧ PList N w l b2 o2) (hNw : N ≤ w.heap.size)
    (hih : ∀ j (hj : j < l.length) W ls kv, Subs N W l[j] ls kv → N ≤ W.heap.size → Calls Tryz.prog 23 #[.agg (aggV l[j] ls kv)] W (OnlyOut W)) :
    Calls Tryz.prog 23 #[.agg #[.int .i64 6, .int .i64 i, .float .f64 r, .string t, .slice lb l.length n1, .slice ka nk n2]] w fun e w' => ∃ a1 m1 q1, e = .returned (.agg #[.int .i64 6, .int .i64 0, .float .f64 0, .string ⟨#[]⟩, .slice a1 m1 q1, .slice ka nk n2]) ∧ Kp (fun _ => False) w w' := by
  have hll' : l.length ≤ 1099511627776 := hll
  have hst := fun (x : Nat) (a : Addr) (w : World) => store_float x a w
  obtain ⟨i0, hi, hz0, hz1, hz2⟩ := info_parts info_val
  obtain ⟨W0, hW0⟩ : ∃ W0, ((w.alloc (.cells #[.int .i64 6, .int .i64 i, .float .f64 r, .string t, .slice lb l.length n1, .slice ka nk n2] 26)).alloc (.cells #[.int .i64 0, .int .i64 0, .float .f64 0, .string ⟨#[]⟩, .slice none 0 0, .slice none 0 0] 26)).alloc (.cells #[.int .i64 6, .int .i64 0, .float .f64 0, .string ⟨#[]⟩, .slice none 0 0, .slice ka nk n2] 26) = W0 := ⟨_, rfl⟩
  have hW0s : Hid (W0.heap.size = w.heap.size + 3) := Lib.hid (by rw [← hW0]; simp)
  have hW0o : Hid (∀ k, k < w.heap.size → W0.heap[k]? = w.heap[k]?) := Lib.hid (fun k hk => by rw [← hW0, heap_alloc_old _ _ _ (by simp; omega), heap_alloc_old _ _ _ (by simp; omega), heap_alloc_old _ _ _ hk])
  have hbx : Hid (W0.heap[w.heap.size]? = some (.cells #[.int .i64 6, .int .i64 i, .float .f64 r, .string t, .slice lb l.length n1, .slice ka nk n2] 26 (0, 0))) := Lib.hid (by rw [← hW0, heap_alloc_old _ _ _ (by simp; omega), heap_alloc_old _ _ _ (by simp)]; exact heap_alloc_new w _)
  have hrs : Hid (W0.heap[w.heap.size + 1]? = some (.cells #[.int .i64 0, .int .i64 0, .float .f64 0, .string ⟨#[]⟩, .slice none 0 0, .slice none 0 0] 26 (0, 0))) := Lib.hid (by rw [← hW0]; exact third)
  have hob : Hid (OSt W0 W0 (w.heap.size + 1 + 1) (.int .i64 6) (.int .i64 0) (.float .f64 0) (.string ⟨#[]⟩) (.slice ka nk n2) (.slice none 0 0) 0 []) := Lib.hid {
    blk := by
      rw [← hW0]
      have := heap_alloc_new ((w.alloc (.cells #[.int .i64 6, .int .i64 i, .float .f64 r, .string t, .slice lb l.length n1, .slice ka nk n2] 26)).alloc (.cells #[.int .i64 0, .int .i64 0, .float .f64 0, .string ⟨#[]⟩, .slice none 0 0, .slice none 0 0] 26)) (.cells #[.int .i64 6, .int .i64 0, .float .f64 0, .string ⟨#[]⟩, .slice none 0 0, .slice ka nk n2] 26)
      simpa using this
    row := World.ownsRow_nil _ _ _ _
    kp := Kp.refl _ _
    lt := by rw [hW0s.out]; omega }
  have hW0k : Hid (Kp (fun _ => False) w W0) := Lib.hid (by rw [← hW0]; exact (((Kp.refl _ w).alloc _).alloc _).alloc _)
  have hW0H := Lib.hid hW0
  have hLH := Lib.hid hL
  have hNle := Lib.hid hNw
  have hihH := Lib.hid hih
  clear hL hNw hih hll hW0
  go_enter Tryz.func23, Tryz.ntmps23
  go_wp2_with fail
  rw [hW0H.out]
  clear hW0H
  go_loopg [36] (l.length) (fun k cc wr => ∃ (j : Nat) (lv : Value) (xs : List Value), j ≤ l.length ∧ k = l.length - j ∧ cc = .int .i64 j ∧ Hid (OSt W0 wr (w.heap.size + 1 + 1) (.int .i64 6) (.int .i64 0) (.float .f64 0) (.string ⟨#[]⟩) (.slice ka nk n2) lv j xs))
  case atStart => exact ⟨0, _, _, Nat.zero_le _, rfl, rfl, hob⟩
  case round =>
    obtain ⟨j, lv, xs, hj, hk, rfl, hO⟩ := hrel
    obtain ⟨lo, lc, hlv⟩ : ∃ lo lc, lv = .slice lo j lc := by
      rcases hO.out.row.2 with ⟨e, e2⟩ | ⟨g, cap, cu, e, _⟩
      · exact ⟨none, 0, by rw [e, e2]⟩
      · exact ⟨_, _, e⟩
    subst hlv
    have hbw := hO.out.kp.at (b := w.heap.size) (by rw [hW0s.out]; omega) (by show ¬ w.heap.size = w.heap.size + 1 + 1; omega) hbx.out
    have v4 : wr.cell? ⟨w.heap.size, 4, none⟩ = some (.slice lb l.length n1) := cells_of hbw 4
    have e4 : wr.cell? ⟨w.heap.size + 1 + 1, 4, none⟩ = some (.slice lo j lc) := cells_of hO.out.blk 4
    by_cases hlt : j < l.length
    · obtain ⟨b2, o2, rfl, hPL⟩ : ∃ b2 o2, lb = some ⟨b2, o2, none⟩ ∧ PList N w l b2 o2 := by
        rcases hLH.out with h | h
        · subst h; simp at hlt
        · exact h
      have hlwG : ∀ W, Kp (fun k => k = w.heap.size + 1 + 1) W0 W → ∀ k, k < w.heap.size → W.heap[k]? = w.heap[k]? := fun W hW k hk => (hW.block k (by rw [hW0s.out]; omega) (by show ¬ k = w.heap.size + 1 + 1; omega)).trans (hW0o.out k hk)
      have hlw := hlwG wr hO.out.kp
      obtain ⟨ls2, kv2, hS2, hb2, hc2⟩ := (hPL.at j hlt).cells
      have hb2w : b2 < w.heap.size := by have := hNle.out; omega
      have hcall : ∀ W, Kp (fun k => k = w.heap.size + 1 + 1) W0 W → Calls Tryz.prog 23 #[.agg (aggV l[j] ls2 kv2)] W (OnlyOut W) := fun W hW => hihH.out j hlt W ls2 kv2 (hS2.step (Nat.le_refl _) (fun k hk => hlwG W hW k (by have := hNle.out; omega))) (by have h1 := hW.size; have h2 := hNle.out; rw [hW0s.out] at h1; omega)
      obtain ⟨z, hz⟩ : ∃ z, l[j] = z := ⟨_, rfl⟩
      rw [hz] at hS2
      have hc2' : ∀ q (hq : q < 6), wr.cell? ⟨b2, o2 + 6 * j + q, none⟩ = (aggV z ls2 kv2)[q]? := fun q hq => by
        rw [World.cell?_of_block (hlw b2 hb2w), hc2 q hq, ← hz]
        exact (Array.getElem?_eq_getElem _).symm
      rw [hz] at hcall
      obtain ⟨k', i', r', t', l', ks'⟩ := z
      obtain ⟨⟨ao2, q3, rfl, _⟩, ⟨ak2, q4, rfl, _⟩⟩ := hS2
      simp only [aggV] at hcall hc2'
      have d0 : wr.cell? ⟨b2, o2 + j * 6, none⟩ = some (.int .i64 k') := by rw [show o2 + j * 6 = o2 + 6 * j + 0 by omega]; exact hc2' 0 (by decide)
      have d1 : wr.cell? ⟨b2, o2 + j * 6 + 1, none⟩ = some (.int .i64 i') := by rw [show o2 + j * 6 + 1 = o2 + 6 * j + 1 by omega]; exact hc2' 1 (by decide)
      have d2 : wr.cell? ⟨b2, o2 + j * 6 + 2, none⟩ = some (.float .f64 r') := by rw [show o2 + j * 6 + 2 = o2 + 6 * j + 2 by omega]; exact hc2' 2 (by decide)
      have d3 : wr.cell? ⟨b2, o2 + j * 6 + 3, none⟩ = some (.string t') := by rw [show o2 + j * 6 + 3 = o2 + 6 * j + 3 by omega]; exact hc2' 3 (by decide)
      have d4 : wr.cell? ⟨b2, o2 + j * 6 + 4, none⟩ = some (.slice ao2 l'.length q3) := by rw [show o2 + j * 6 + 4 = o2 + 6 * j + 4 by omega]; exact hc2' 4 (by decide)
      have d5 : wr.cell? ⟨b2, o2 + j * 6 + 5, none⟩ = some (.slice ak2 ks'.length q4) := by rw [show o2 + j * 6 + 5 = o2 + 6 * j + 5 by omega]; exact hc2' 5 (by decide)
      have hcallH := Lib.hid hcall
      have hO := Lib.hid hO.out.drew
      clear hcall hz hPL hc2 hc2' hlw hlwG hbw
      go_wp2_with fail
      go_region_law (first
        | (refine step_append_lies _ rfl (.tmp 40) (.tmp 47) 23 rfl W0.heap.size 26 i0 (.agg #[.int .i64 0, .int .i64 0, .float .f64 0, .string ⟨#[]⟩, .slice none 0 0, .slice none 0 0]) 6 88 Tryz.underlying23 hi hz0 hz1 hz2 rfl (by omega) (.slice lo j lc) j xs (by simp [Act.eval]) (by exact (hO.out.alloc _).row) ⟨w6.heap.size, 0, none⟩ 1 1 [.int .i64 k1, .int .i64 i1, .float .f64 r1, .string t1, .slice a1 m1 q1, .slice a2 m2 q2] (by simp [Act.eval]) rfl (World.news_of_block (by exact heap_alloc_new _ _)) (six_one _ _ _ _ _ _ _ _ _ _) (by omega) (by unfold maxLen; omega) (by omega) (by have := hO.out.kp.size; simp at this ⊢; omega) _ rfl ?_; intro g cap w5 hown5 hgrow5 hat5 hlt5; have hO5 := Lib.hid (OSt.grow (hO.out.alloc _) hown5 hgrow5); have e4 : w5.cell? ⟨w.heap.size + 1 + 1, 4, none⟩ = some (.slice lo j lc) := (by rw [World.cell?_of_block (hgrow5.block _ (by have := hO.out.lt; have := hO.out.kp.size; simp; omega) (hO.out.far))]; exact cells_alloc hO.out.blk _ 4); have f4 : w5.frozen? ⟨w.heap.size + 1 + 1, 4, none⟩ = false := (by rw [World.frozen?_of_block (hgrow5.block _ (by have := hO.out.lt; have := hO.out.kp.size; simp; omega) (hO.out.far))]; exact free_allocV hO.out.blk _ 4); clear hown5 hgrow5 hat5 hlt5)
        | (go_simp; go_at_call 23; refine (hcallH.out _ (by exact hO.out.kp) ).mono ?_; rintro e w6 ⟨k1, i1, r1, t1, a1, m1, q1, a2, m2, q2, rfl, hk6⟩; have hO := Lib.hid (hO.out.keep hk6); have e4 : w6.cell? ⟨w.heap.size + 1 + 1, 4, none⟩ = some (.slice lo j lc) := cells_of hO.out.blk 4; have e4a := fun o => cells_alloc hO.out.blk o 4; simp only [List.getElem?_toArray, List.getElem?_cons_zero, List.getElem?_cons_succ] at e4a; clear hk6))
      all_goals
        generalize w5.setCell ⟨w.heap.size + 1 + 1, 4, none⟩ (.slice (some ⟨g, 0, none⟩) (j + 1) cap) = W at hO5 ⊢
        clear e4 f4 d0 d1 d2 d3 d4 d5 v4 hO
        go_wp2_with fail
        go_roundg (l.length - (j + 1))
        case measure => omega
        case rel => exact ⟨j + 1, _, _, by omega, rfl, by go_num, hO5⟩
    · have hje : j = l.length := by omega
      subst hje
      have hrw := hO.out.kp.at (b := w.heap.size + 1) (by rw [hW0s.out]; omega) (by show ¬ w.heap.size + 1 = w.heap.size + 1 + 1; omega) hrs.out
      have y0 := cells_of hO.out.blk 0
      have y1 := cells_of hO.out.blk 1
      have y2 := cells_of hO.out.blk 2
      have y3 := cells_of hO.out.blk 3
      have y5 := cells_of hO.out.blk 5
      have z0 := cells_of hrw 0
      have z1 := cells_of hrw 1
      have z2 := cells_of hrw 2
      have z3 := cells_of hrw 3
      have z4 := cells_of hrw 4
      have z5 := cells_of hrw 5
      have x0 := free_of hrw 0
      have x1 := free_of hrw 1
      have x2 := free_of hrw 2
      have x3 := free_of hrw 3
      have x4 := free_of hrw 4
      have x5 := free_of hrw 5
      simp only [List.getElem?_toArray, List.getElem?_cons_zero, List.getElem?_cons_succ] at y0 y1 y2 y3 y5 z0 z1 z2 z3 z4 z5
      have hkw : Hid (Kp (fun _ => False) w wr) := Lib.hid (((hW0k.out.mono (Y := fun k => k = w.heap.size + 1 + 1) fun _ _ x => x.elim).trans hO.out.kp).mono fun k hk hx => by have hx' : k = w.heap.size + 1 + 1 := hx; omega)
      have hrwH := Lib.hid hrw
      clear hrw hbw v4
      go_wp2_with fail
      have hfin := set6 (v0 := .int .i64 6) (v1 := .int .i64 0) (v2 := .float .f64 0) (v3 := .string ⟨#[]⟩) (v4 := .slice lo l.length lc) (v5 := .slice ka nk n2) hrwH.out
      refine bodyPost_ret (results_block rfl _ _ _ rfl (run_loadVar_row _ _ _ _ _ _ _ hfin Tryz.underlying26 rfl infoV)) rfl ⟨_, _, _, rfl, ?_⟩
      exact (((((hkw.out.setCell _ _ _ (.inr (by omega))).setCell _ _ _ (.inr (by omega))).setCell _ _ _ (.inr (by omega))).setCell _ _ _ (.inr (by omega))).setCell _ _ _ (.inr (by omega))).setCell _ _ _ (.inr (by omega))

set_option maxHeartbeats 3200000 in
set_option maxRecDepth 100000 in
theorem Only_7 {w : World} {i : Int} {r : Nat} {t : ByteArray} {l : List Val} {lb ka : Option Addr} {n1 nk n2 N : Nat} (hll : l.length ≤ lim) (hlr : 88 * (l.length + 1) ≤ 140737488355328) (hL : l = [] ∨ ∃ b2 o2, lb = some ⟨b2, o2, none⟩ ∧ PList N w l b2 o2) (hNw : N ≤ w.heap.size)
    (hih : ∀ j (hj : j < l.length) W ls kv, Subs N W l[j] ls kv → N ≤ W.heap.size → Calls Tryz.prog 23 #[.agg (aggV l[j] ls kv)] W (OnlyOut W)) :
    Calls Tryz.prog 23 #[.agg #[.int .i64 7, .int .i64 i, .float .f64 r, .string t, .slice lb l.length n1, .slice ka nk n2]] w fun e w' => ∃ a1 m1 q1, e = .returned (.agg #[.int .i64 7, .int .i64 0, .float .f64 0, .string ⟨#[]⟩, .slice a1 m1 q1, .slice ka nk n2]) ∧ Kp (fun _ => False) w w' := by
  have hll' : l.length ≤ 1099511627776 := hll
  have hst := fun (x : Nat) (a : Addr) (w : World) => store_float x a w
  obtain ⟨i0, hi, hz0, hz1, hz2⟩ := info_parts info_val
  obtain ⟨W0, hW0⟩ : ∃ W0, ((w.alloc (.cells #[.int .i64 7, .int .i64 i, .float .f64 r, .string t, .slice lb l.length n1, .slice ka nk n2] 26)).alloc (.cells #[.int .i64 0, .int .i64 0, .float .f64 0, .string ⟨#[]⟩, .slice none 0 0, .slice none 0 0] 26)).alloc (.cells #[.int .i64 7, .int .i64 0, .float .f64 0, .string ⟨#[]⟩, .slice none 0 0, .slice ka nk n2] 26) = W0 := ⟨_, rfl⟩
  have hW0s : Hid (W0.heap.size = w.heap.size + 3) := Lib.hid (by rw [← hW0]; simp)
  have hW0o : Hid (∀ k, k < w.heap.size → W0.heap[k]? = w.heap[k]?) := Lib.hid (fun k hk => by rw [← hW0, heap_alloc_old _ _ _ (by simp; omega), heap_alloc_old _ _ _ (by simp; omega), heap_alloc_old _ _ _ hk])
  have hbx : Hid (W0.heap[w.heap.size]? = some (.cells #[.int .i64 7, .int .i64 i, .float .f64 r, .string t, .slice lb l.length n1, .slice ka nk n2] 26 (0, 0))) := Lib.hid (by rw [← hW0, heap_alloc_old _ _ _ (by simp; omega), heap_alloc_old _ _ _ (by simp)]; exact heap_alloc_new w _)
  have hrs : Hid (W0.heap[w.heap.size + 1]? = some (.cells #[.int .i64 0, .int .i64 0, .float .f64 0, .string ⟨#[]⟩, .slice none 0 0, .slice none 0 0] 26 (0, 0))) := Lib.hid (by rw [← hW0]; exact third)
  have hob : Hid (OSt W0 W0 (w.heap.size + 1 + 1) (.int .i64 7) (.int .i64 0) (.float .f64 0) (.string ⟨#[]⟩) (.slice ka nk n2) (.slice none 0 0) 0 []) := Lib.hid {
    blk := by
      rw [← hW0]
      have := heap_alloc_new ((w.alloc (.cells #[.int .i64 7, .int .i64 i, .float .f64 r, .string t, .slice lb l.length n1, .slice ka nk n2] 26)).alloc (.cells #[.int .i64 0, .int .i64 0, .float .f64 0, .string ⟨#[]⟩, .slice none 0 0, .slice none 0 0] 26)) (.cells #[.int .i64 7, .int .i64 0, .float .f64 0, .string ⟨#[]⟩, .slice none 0 0, .slice ka nk n2] 26)
      simpa using this
    row := World.ownsRow_nil _ _ _ _
    kp := Kp.refl _ _
    lt := by rw [hW0s.out]; omega }
  have hW0k : Hid (Kp (fun _ => False) w W0) := Lib.hid (by rw [← hW0]; exact (((Kp.refl _ w).alloc _).alloc _).alloc _)
  have hW0H := Lib.hid hW0
  have hLH := Lib.hid hL
  have hNle := Lib.hid hNw
  have hihH := Lib.hid hih
  clear hL hNw hih hll hW0
  go_enter Tryz.func23, Tryz.ntmps23
  go_wp2_with fail
  rw [hW0H.out]
  clear hW0H
  go_loopg [36] (l.length) (fun k cc wr => ∃ (j : Nat) (lv : Value) (xs : List Value), j ≤ l.length ∧ k = l.length - j ∧ cc = .int .i64 j ∧ Hid (OSt W0 wr (w.heap.size + 1 + 1) (.int .i64 7) (.int .i64 0) (.float .f64 0) (.string ⟨#[]⟩) (.slice ka nk n2) lv j xs))
  case atStart => exact ⟨0, _, _, Nat.zero_le _, rfl, rfl, hob⟩
  case round =>
    obtain ⟨j, lv, xs, hj, hk, rfl, hO⟩ := hrel
    obtain ⟨lo, lc, hlv⟩ : ∃ lo lc, lv = .slice lo j lc := by
      rcases hO.out.row.2 with ⟨e, e2⟩ | ⟨g, cap, cu, e, _⟩
      · exact ⟨none, 0, by rw [e, e2]⟩
      · exact ⟨_, _, e⟩
    subst hlv
    have hbw := hO.out.kp.at (b := w.heap.size) (by rw [hW0s.out]; omega) (by show ¬ w.heap.size = w.heap.size + 1 + 1; omega) hbx.out
    have v4 : wr.cell? ⟨w.heap.size, 4, none⟩ = some (.slice lb l.length n1) := cells_of hbw 4
    have e4 : wr.cell? ⟨w.heap.size + 1 + 1, 4, none⟩ = some (.slice lo j lc) := cells_of hO.out.blk 4
    by_cases hlt : j < l.length
    · obtain ⟨b2, o2, rfl, hPL⟩ : ∃ b2 o2, lb = some ⟨b2, o2, none⟩ ∧ PList N w l b2 o2 := by
        rcases hLH.out with h | h
        · subst h; simp at hlt
        · exact h
      have hlwG : ∀ W, Kp (fun k => k = w.heap.size + 1 + 1) W0 W → ∀ k, k < w.heap.size → W.heap[k]? = w.heap[k]? := fun W hW k hk => (hW.block k (by rw [hW0s.out]; omega) (by show ¬ k = w.heap.size + 1 + 1; omega)).trans (hW0o.out k hk)
      have hlw := hlwG wr hO.out.kp
      obtain ⟨ls2, kv2, hS2, hb2, hc2⟩ := (hPL.at j hlt).cells
      have hb2w : b2 < w.heap.size := by have := hNle.out; omega
      have hcall : ∀ W, Kp (fun k => k = w.heap.size + 1 + 1) W0 W → Calls Tryz.prog 23 #[.agg (aggV l[j] ls2 kv2)] W (OnlyOut W) := fun W hW => hihH.out j hlt W ls2 kv2 (hS2.step (Nat.le_refl _) (fun k hk => hlwG W hW k (by have := hNle.out; omega))) (by have h1 := hW.size; have h2 := hNle.out; rw [hW0s.out] at h1; omega)
      obtain ⟨z, hz⟩ : ∃ z, l[j] = z := ⟨_, rfl⟩
      rw [hz] at hS2
      have hc2' : ∀ q (hq : q < 6), wr.cell? ⟨b2, o2 + 6 * j + q, none⟩ = (aggV z ls2 kv2)[q]? := fun q hq => by
        rw [World.cell?_of_block (hlw b2 hb2w), hc2 q hq, ← hz]
        exact (Array.getElem?_eq_getElem _).symm
      rw [hz] at hcall
      obtain ⟨k', i', r', t', l', ks'⟩ := z
      obtain ⟨⟨ao2, q3, rfl, _⟩, ⟨ak2, q4, rfl, _⟩⟩ := hS2
      simp only [aggV] at hcall hc2'
      have d0 : wr.cell? ⟨b2, o2 + j * 6, none⟩ = some (.int .i64 k') := by rw [show o2 + j * 6 = o2 + 6 * j + 0 by omega]; exact hc2' 0 (by decide)
      have d1 : wr.cell? ⟨b2, o2 + j * 6 + 1, none⟩ = some (.int .i64 i') := by rw [show o2 + j * 6 + 1 = o2 + 6 * j + 1 by omega]; exact hc2' 1 (by decide)
      have d2 : wr.cell? ⟨b2, o2 + j * 6 + 2, none⟩ = some (.float .f64 r') := by rw [show o2 + j * 6 + 2 = o2 + 6 * j + 2 by omega]; exact hc2' 2 (by decide)
      have d3 : wr.cell? ⟨b2, o2 + j * 6 + 3, none⟩ = some (.string t') := by rw [show o2 + j * 6 + 3 = o2 + 6 * j + 3 by omega]; exact hc2' 3 (by decide)
      have d4 : wr.cell? ⟨b2, o2 + j * 6 + 4, none⟩ = some (.slice ao2 l'.length q3) := by rw [show o2 + j * 6 + 4 = o2 + 6 * j + 4 by omega]; exact hc2' 4 (by decide)
      have d5 : wr.cell? ⟨b2, o2 + j * 6 + 5, none⟩ = some (.slice ak2 ks'.length q4) := by rw [show o2 + j * 6 + 5 = o2 + 6 * j + 5 by omega]; exact hc2' 5 (by decide)
      have hcallH := Lib.hid hcall
      have hO := Lib.hid hO.out.drew
      clear hcall hz hPL hc2 hc2' hlw hlwG hbw
      go_wp2_with fail
      go_region_law (first
        | (refine step_append_lies _ rfl (.tmp 40) (.tmp 47) 23 rfl W0.heap.size 26 i0 (.agg #[.int .i64 0, .int .i64 0, .float .f64 0, .string ⟨#[]⟩, .slice none 0 0, .slice none 0 0]) 6 88 Tryz.underlying23 hi hz0 hz1 hz2 rfl (by omega) (.slice lo j lc) j xs (by simp [Act.eval]) (by exact (hO.out.alloc _).row) ⟨w6.heap.size, 0, none⟩ 1 1 [.int .i64 k1, .int .i64 i1, .float .f64 r1, .string t1, .slice a1 m1 q1, .slice a2 m2 q2] (by simp [Act.eval]) rfl (World.news_of_block (by exact heap_alloc_new _ _)) (six_one _ _ _ _ _ _ _ _ _ _) (by omega) (by unfold maxLen; omega) (by omega) (by have := hO.out.kp.size; simp at this ⊢; omega) _ rfl ?_; intro g cap w5 hown5 hgrow5 hat5 hlt5; have hO5 := Lib.hid (OSt.grow (hO.out.alloc _) hown5 hgrow5); have e4 : w5.cell? ⟨w.heap.size + 1 + 1, 4, none⟩ = some (.slice lo j lc) := (by rw [World.cell?_of_block (hgrow5.block _ (by have := hO.out.lt; have := hO.out.kp.size; simp; omega) (hO.out.far))]; exact cells_alloc hO.out.blk _ 4); have f4 : w5.frozen? ⟨w.heap.size + 1 + 1, 4, none⟩ = false := (by rw [World.frozen?_of_block (hgrow5.block _ (by have := hO.out.lt; have := hO.out.kp.size; simp; omega) (hO.out.far))]; exact free_allocV hO.out.blk _ 4); clear hown5 hgrow5 hat5 hlt5)
        | (go_simp; go_at_call 23; refine (hcallH.out _ (by exact hO.out.kp) ).mono ?_; rintro e w6 ⟨k1, i1, r1, t1, a1, m1, q1, a2, m2, q2, rfl, hk6⟩; have hO := Lib.hid (hO.out.keep hk6); have e4 : w6.cell? ⟨w.heap.size + 1 + 1, 4, none⟩ = some (.slice lo j lc) := cells_of hO.out.blk 4; have e4a := fun o => cells_alloc hO.out.blk o 4; simp only [List.getElem?_toArray, List.getElem?_cons_zero, List.getElem?_cons_succ] at e4a; clear hk6))
      all_goals
        generalize w5.setCell ⟨w.heap.size + 1 + 1, 4, none⟩ (.slice (some ⟨g, 0, none⟩) (j + 1) cap) = W at hO5 ⊢
        clear e4 f4 d0 d1 d2 d3 d4 d5 v4 hO
        go_wp2_with fail
        go_roundg (l.length - (j + 1))
        case measure => omega
        case rel => exact ⟨j + 1, _, _, by omega, rfl, by go_num, hO5⟩
    · have hje : j = l.length := by omega
      subst hje
      have hrw := hO.out.kp.at (b := w.heap.size + 1) (by rw [hW0s.out]; omega) (by show ¬ w.heap.size + 1 = w.heap.size + 1 + 1; omega) hrs.out
      have y0 := cells_of hO.out.blk 0
      have y1 := cells_of hO.out.blk 1
      have y2 := cells_of hO.out.blk 2
      have y3 := cells_of hO.out.blk 3
      have y5 := cells_of hO.out.blk 5
      have z0 := cells_of hrw 0
      have z1 := cells_of hrw 1
      have z2 := cells_of hrw 2
      have z3 := cells_of hrw 3
      have z4 := cells_of hrw 4
      have z5 := cells_of hrw 5
      have x0 := free_of hrw 0
      have x1 := free_of hrw 1
      have x2 := free_of hrw 2
      have x3 := free_of hrw 3
      have x4 := free_of hrw 4
      have x5 := free_of hrw 5
      simp only [List.getElem?_toArray, List.getElem?_cons_zero, List.getElem?_cons_succ] at y0 y1 y2 y3 y5 z0 z1 z2 z3 z4 z5
      have hkw : Hid (Kp (fun _ => False) w wr) := Lib.hid (((hW0k.out.mono (Y := fun k => k = w.heap.size + 1 + 1) fun _ _ x => x.elim).trans hO.out.kp).mono fun k hk hx => by have hx' : k = w.heap.size + 1 + 1 := hx; omega)
      have hrwH := Lib.hid hrw
      clear hrw hbw v4
      go_wp2_with fail
      have hfin := set6 (v0 := .int .i64 7) (v1 := .int .i64 0) (v2 := .float .f64 0) (v3 := .string ⟨#[]⟩) (v4 := .slice lo l.length lc) (v5 := .slice ka nk n2) hrwH.out
      refine bodyPost_ret (results_block rfl _ _ _ rfl (run_loadVar_row _ _ _ _ _ _ _ hfin Tryz.underlying26 rfl infoV)) rfl ⟨_, _, _, rfl, ?_⟩
      exact (((((hkw.out.setCell _ _ _ (.inr (by omega))).setCell _ _ _ (.inr (by omega))).setCell _ _ _ (.inr (by omega))).setCell _ _ _ (.inr (by omega))).setCell _ _ _ (.inr (by omega))).setCell _ _ _ (.inr (by omega))

/-- What Only leaves of a value. -/
def OnlyV (W : World) (v : Val) (e : Ending) (w' : World) : Prop :=
  ∃ a1 m1 q1 a2 m2 q2, e = .returned (.agg (match clnV v with | .mk k i r t _ _ => #[.int .i64 k, .int .i64 i, .float .f64 r, .string t, .slice a1 m1 q1, .slice a2 m2 q2])) ∧ ((match v with | .mk k _ _ _ _ _ => k < 6) → a1 = none ∧ m1 = 0 ∧ q1 = 0 ∧ a2 = none ∧ m2 = 0 ∧ q2 = 0) ∧ Kp (fun _ => False) W w'

theorem Only_any (n : Nat) : ∀ v : Val, vsz v ≤ n → Good v → vsz v ≤ lim → ∀ (w : World) (N : Nat) (ls kv : Value), Subs N w v ls kv → N ≤ w.heap.size →
    Calls Tryz.prog 23 #[.agg (aggV v ls kv)] w (OnlyV w v) := by
  induction n with
  | zero => intro v hv; cases v; simp [vsz] at hv
  | succ n ih =>
    intro v hv hG hlim w N ls kv hS hNw
    obtain ⟨k, i, r, t, l, ks⟩ := v
    simp only [Good] at hG
    obtain ⟨⟨hk1, hk7⟩, _, _, hkl, hl6, hk7', hGL⟩ := hG
    simp only [vsz] at hv hlim
    have hvl := vszL_len l
    have hll : l.length ≤ lim := by omega
    have hlr : 88 * (l.length + 1) ≤ 140737488355328 := by have h1 : l.length ≤ 1099511627776 := hll; omega
    obtain ⟨⟨ao, c, rfl, hL⟩, ⟨ako, ck, rfl, _⟩⟩ := hS
    have hih : ∀ j (hj : j < l.length) W ls kv, Subs N W l[j] ls kv → N ≤ W.heap.size → Calls Tryz.prog 23 #[.agg (aggV l[j] ls kv)] W (OnlyOut W) := fun j hj W ls kv h1 h2 =>
      (ih l[j] (by have := vszL_at j hj; omega) (hGL.at j hj) (by have := vszL_at j hj; omega) W N ls kv h1 h2).mono fun e w' hh => by
        obtain ⟨a1, m1, q1, a2, m2, q2, he, _, hk⟩ := hh
        generalize clnV l[j] = zz at he
        obtain ⟨k2, i2, r2, t2, l2, ks2⟩ := zz
        exact ⟨k2, i2, r2, t2, a1, m1, q1, a2, m2, q2, he, hk⟩
    have hcases : k = 1 ∨ k = 2 ∨ k = 3 ∨ k = 4 ∨ k = 5 ∨ k = 6 ∨ k = 7 := by omega
    rcases hcases with rfl | rfl | rfl | rfl | rfl | rfl | rfl
    · exact Only_1.mono fun e w' hh => ⟨none, 0, 0, none, 0, 0, hh.1, fun _ => ⟨rfl, rfl, rfl, rfl, rfl, rfl⟩, hh.2⟩
    · exact Only_2.mono fun e w' hh => ⟨none, 0, 0, none, 0, 0, hh.1, fun _ => ⟨rfl, rfl, rfl, rfl, rfl, rfl⟩, hh.2⟩
    · exact Only_3.mono fun e w' hh => ⟨none, 0, 0, none, 0, 0, hh.1, fun _ => ⟨rfl, rfl, rfl, rfl, rfl, rfl⟩, hh.2⟩
    · exact Only_4.mono fun e w' hh => ⟨none, 0, 0, none, 0, 0, hh.1, fun _ => ⟨rfl, rfl, rfl, rfl, rfl, rfl⟩, hh.2⟩
    · exact Only_5.mono fun e w' hh => ⟨none, 0, 0, none, 0, 0, hh.1, fun _ => ⟨rfl, rfl, rfl, rfl, rfl, rfl⟩, hh.2⟩
    · refine (Only_6 hll hlr hL hNw hih).mono fun e w' hh => ?_
      obtain ⟨a1, m1, q1, he, hk⟩ := hh
      exact ⟨a1, m1, q1, ako, ks.length, ck, he, fun h => by exact absurd h (Int.lt_irrefl _), hk⟩
    · refine (Only_7 hll hlr hL hNw hih).mono fun e w' hh => ?_
      obtain ⟨a1, m1, q1, he, hk⟩ := hh
      exact ⟨a1, m1, q1, ako, ks.length, ck, he, fun h => by have h2 : (7 : Int) < 6 := h; omega, hk⟩
end Go.Proofs.YtokmkkkanphihaaGreatRDoor
