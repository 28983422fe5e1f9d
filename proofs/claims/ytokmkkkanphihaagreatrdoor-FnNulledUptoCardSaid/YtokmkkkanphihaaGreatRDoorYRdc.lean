/- The reference's reader: escapes, texts in quotation marks (written by genRdE.py). -/
import Derived.Test.YtokmkkkanphihaaGreatRDoorYRdb
import Derived.Deep.RegionLaw
import Derived.Test.YtokmkkkanphihaaGreatRDoorYRda
namespace Go.Proofs.YtokmkkkanphihaaGreatRDoor
open Go.RowKit Go.Sort

/-- The reader, and a row of bytes that has been made since w0. -/
def Bld (w0 w : World) (rb : Nat) (T : ByteArray) (p : Nat) (v : Value) (l : List UInt8) : Prop :=
  Rdr w rb T p ∧ w.ownsRow w0.heap.size 5 1 v l.length (bvs l) ∧ Kp (fun k => k = rb) w0 w ∧ rb < w0.heap.size

theorem Bld.grow {w0 w w1 : World} {rb p : Nat} {T : ByteArray} {v v' : Value} {l : List UInt8} {c : UInt8} (h : Bld w0 w rb T p v l) {o : Obj}
    (hown : w1.ownsRow w0.heap.size 5 1 v' (l.length + 1) (bvs l ++ [.int .u8 (c.toNat : Int)])) (hg : (w.alloc o).grownBy w1 v.ownBlock) : Bld w0 w1 rb T p v' (l ++ [c]) := by
  obtain ⟨h1, h2, h3, h4⟩ := h
  have hsz := h3.size
  have hne : ∀ k, k < w0.heap.size → some k ≠ v.ownBlock := fun k hk e => by
    have := h2.lt k e.symm
    omega
  have hlow : ∀ k, k < w0.heap.size → w1.heap[k]? = w.heap[k]? := fun k hk => by
    rw [hg.block k (by simp; omega) (hne k hk), heap_alloc_old _ _ _ (by omega)]
  refine ⟨h1.kept (hlow rb h4), ?_, ⟨hg.os.trans h3.os, hg.tape.trans h3.tape, hg.output.trans h3.output, ?_, fun k hk hx => (hlow k hk).trans (h3.block k hk hx)⟩, h4⟩
  · rw [List.length_append, List.length_singleton, bvs_append]
    exact hown
  · have := hg.size; simp at this; omega

theorem Bld.went {w0 w w' : World} {rb p q : Nat} {T : ByteArray} {v : Value} {l : List UInt8} (h : Bld w0 w rb T p v l) (hw : Went w w' rb T q) : Bld w0 w' rb T q v l := by
  obtain ⟨h1, h2, h3, h4⟩ := h
  refine ⟨hw.1, ⟨h2.1, ?_⟩, h3.trans hw.2, h4⟩
  rcases h2.2 with a | ⟨g, cap, cur, b1, b2, b3, b4⟩
  · exact .inl a
  · refine .inr ⟨g, cap, cur, b1, b2, ?_, b4⟩
    rw [hw.2.block g (h2.lt g (by rw [b1]; rfl)).2 (by omega)]
    exact b3

theorem Bld.drewN {w0 w : World} {rb p : Nat} {T : ByteArray} {v : Value} {l : List UInt8} (h : Bld w0 w rb T p v l) (n : Nat) : Bld w0 (w.drewN n) rb T p v l := h.went ((Went.refl h.1).drewN n)

theorem news_at {W : World} {N : Nat} {x : Value} {t : TypeId} (hN : W.heap.size = N) : (W.alloc (.cells #[x] t)).cell? ((⟨N, 0, none⟩ : Addr).add 0) = some x := by
  subst hN
  show (W.alloc (.cells #[x] t)).cell? ⟨W.heap.size, 0, none⟩ = some x
  rw [World.cell?_alloc_new]
  rfl

/-- What an escape leaves. -/
def EscOut (w0 : World) (rb : Nat) (T : ByteArray) (q : Nat) (l : List UInt8) (ev : Ending) (w' : World) : Prop := ∃ v', ev = .returned v' ∧ Bld w0 w' rb T q v' l

set_option maxHeartbeats 3200000 in
set_option maxRecDepth 100000 in
theorem escape_34 {w0 w : World} {rb p : Nat} {T : ByteArray} {v : Value} {l : List UInt8} {Y : List UInt8} (h : Bld w0 w rb T p v l) (ha : At T p (34 :: Y)) (hT : T.size ≤ lim) (hl : l.length + 1 ≤ lim) :
    Calls Tryz.prog 75 #[.pointer (some ⟨rb, 0, none⟩), v] w (EscOut w0 rb T (p + 1) (l ++ [34])) := by
  obtain ⟨c0, c1, c2, f1, f2⟩ := h.1.cells
  obtain ⟨i0, hi, hz0, hz1, hz2⟩ := info_parts info_u8
  have hT' : T.size ≤ 1099511627776 := hT
  have hl' : l.length + 1 ≤ 1099511627776 := hl
  have hp : p < T.size := ha.head.1
  have hsz : w0.heap.size ≤ w.heap.size := h.2.2.1.size
  have hpk : Calls Tryz.prog 60 #[.pointer (some ⟨rb, 0, none⟩)] w fun e w' => e = .returned (.int .u8 34) ∧ ∃ n, w' = w.drewN n := (peek_any h.1 ha hT).mono fun e w' hh => ⟨hh.1.trans rfl, hh.2⟩
  have hB : ∀ n, Bld w0 ((w.drewN n).setCell ⟨rb, 1, none⟩ (.int .i64 ((p : Int) + 1))) rb T (p + 1) v l := fun n => by
    have h2 := h.went (((Went.refl h.1).drewN n).put (p + 1))
    push_cast at h2
    exact h2
  have hpkH := Lib.hid hpk
  have hBH := Lib.hid hB
  clear h ha hT hl hpk hB
  go_enter Tryz.func75, Tryz.ntmps75
  go_wp2_with (first
    | (go_at_call 60; refine hpkH.out.mono ?_; rintro e w2 ⟨rfl, n2, rfl⟩)
    | (at_builtin; refine wpList_append_lies _ rfl _ _ 36 rfl w0.heap.size 5 i0 (.int .u8 0) 1 1 Tryz.underlying36 hi hz0 hz1 hz2 rfl (by omega) v l.length (bvs l) rfl ((hBH.out n2).2.1.alloc _) ⟨w.heap.size, 0, none⟩ 1 1 [.int .u8 34] rfl rfl ?c1 ?c2 (by omega) ?c3 ?c4 (by simp; omega) (w.heap.size + 1) (by simp) ?next))
  case c1 => intro j u hj; match j, hj with | 0, hj => (obtain rfl := Option.some.inj hj); exact news_at (by simp [World.setCell])
  case c2 => intro u hu; simp at hu; subst hu; rfl
  case c3 => unfold maxLen; omega
  case c4 => omega
  case next =>
    intro g cap w1 hown1 hgrow hat hlt
    have hfin := Lib.hid ((hBH.out n2).grow (c := 34) hown1 hgrow)
    clear hown1 hgrow hat hlt hBH hpkH
    go_wp2
    go_ret
    exact ⟨_, rfl, hfin.out⟩

set_option maxHeartbeats 3200000 in
set_option maxRecDepth 100000 in
theorem escape_92 {w0 w : World} {rb p : Nat} {T : ByteArray} {v : Value} {l : List UInt8} {Y : List UInt8} (h : Bld w0 w rb T p v l) (ha : At T p (92 :: Y)) (hT : T.size ≤ lim) (hl : l.length + 1 ≤ lim) :
    Calls Tryz.prog 75 #[.pointer (some ⟨rb, 0, none⟩), v] w (EscOut w0 rb T (p + 1) (l ++ [92])) := by
  obtain ⟨c0, c1, c2, f1, f2⟩ := h.1.cells
  obtain ⟨i0, hi, hz0, hz1, hz2⟩ := info_parts info_u8
  have hT' : T.size ≤ 1099511627776 := hT
  have hl' : l.length + 1 ≤ 1099511627776 := hl
  have hp : p < T.size := ha.head.1
  have hsz : w0.heap.size ≤ w.heap.size := h.2.2.1.size
  have hpk : Calls Tryz.prog 60 #[.pointer (some ⟨rb, 0, none⟩)] w fun e w' => e = .returned (.int .u8 92) ∧ ∃ n, w' = w.drewN n := (peek_any h.1 ha hT).mono fun e w' hh => ⟨hh.1.trans rfl, hh.2⟩
  have hB : ∀ n, Bld w0 ((w.drewN n).setCell ⟨rb, 1, none⟩ (.int .i64 ((p : Int) + 1))) rb T (p + 1) v l := fun n => by
    have h2 := h.went (((Went.refl h.1).drewN n).put (p + 1))
    push_cast at h2
    exact h2
  have hpkH := Lib.hid hpk
  have hBH := Lib.hid hB
  clear h ha hT hl hpk hB
  go_enter Tryz.func75, Tryz.ntmps75
  go_wp2_with (first
    | (go_at_call 60; refine hpkH.out.mono ?_; rintro e w2 ⟨rfl, n2, rfl⟩)
    | (at_builtin; refine wpList_append_lies _ rfl _ _ 36 rfl w0.heap.size 5 i0 (.int .u8 0) 1 1 Tryz.underlying36 hi hz0 hz1 hz2 rfl (by omega) v l.length (bvs l) rfl ((hBH.out n2).2.1.alloc _) ⟨w.heap.size, 0, none⟩ 1 1 [.int .u8 92] rfl rfl ?c1 ?c2 (by omega) ?c3 ?c4 (by simp; omega) (w.heap.size + 1) (by simp) ?next))
  case c1 => intro j u hj; match j, hj with | 0, hj => (obtain rfl := Option.some.inj hj); exact news_at (by simp [World.setCell])
  case c2 => intro u hu; simp at hu; subst hu; rfl
  case c3 => unfold maxLen; omega
  case c4 => omega
  case next =>
    intro g cap w1 hown1 hgrow hat hlt
    have hfin := Lib.hid ((hBH.out n2).grow (c := 92) hown1 hgrow)
    clear hown1 hgrow hat hlt hBH hpkH
    go_wp2
    go_ret
    exact ⟨_, rfl, hfin.out⟩

set_option maxHeartbeats 3200000 in
set_option maxRecDepth 100000 in
theorem escape_8 {w0 w : World} {rb p : Nat} {T : ByteArray} {v : Value} {l : List UInt8} {Y : List UInt8} (h : Bld w0 w rb T p v l) (ha : At T p (98 :: Y)) (hT : T.size ≤ lim) (hl : l.length + 1 ≤ lim) :
    Calls Tryz.prog 75 #[.pointer (some ⟨rb, 0, none⟩), v] w (EscOut w0 rb T (p + 1) (l ++ [8])) := by
  obtain ⟨c0, c1, c2, f1, f2⟩ := h.1.cells
  obtain ⟨i0, hi, hz0, hz1, hz2⟩ := info_parts info_u8
  have hT' : T.size ≤ 1099511627776 := hT
  have hl' : l.length + 1 ≤ 1099511627776 := hl
  have hp : p < T.size := ha.head.1
  have hsz : w0.heap.size ≤ w.heap.size := h.2.2.1.size
  have hpk : Calls Tryz.prog 60 #[.pointer (some ⟨rb, 0, none⟩)] w fun e w' => e = .returned (.int .u8 98) ∧ ∃ n, w' = w.drewN n := (peek_any h.1 ha hT).mono fun e w' hh => ⟨hh.1.trans rfl, hh.2⟩
  have hB : ∀ n, Bld w0 ((w.drewN n).setCell ⟨rb, 1, none⟩ (.int .i64 ((p : Int) + 1))) rb T (p + 1) v l := fun n => by
    have h2 := h.went (((Went.refl h.1).drewN n).put (p + 1))
    push_cast at h2
    exact h2
  have hpkH := Lib.hid hpk
  have hBH := Lib.hid hB
  clear h ha hT hl hpk hB
  go_enter Tryz.func75, Tryz.ntmps75
  go_wp2_with (first
    | (go_at_call 60; refine hpkH.out.mono ?_; rintro e w2 ⟨rfl, n2, rfl⟩)
    | (at_builtin; refine wpList_append_lies _ rfl _ _ 36 rfl w0.heap.size 5 i0 (.int .u8 0) 1 1 Tryz.underlying36 hi hz0 hz1 hz2 rfl (by omega) v l.length (bvs l) rfl ((hBH.out n2).2.1.alloc _) ⟨w.heap.size, 0, none⟩ 1 1 [.int .u8 8] rfl rfl ?c1 ?c2 (by omega) ?c3 ?c4 (by simp; omega) (w.heap.size + 1) (by simp) ?next))
  case c1 => intro j u hj; match j, hj with | 0, hj => (obtain rfl := Option.some.inj hj); exact news_at (by simp [World.setCell])
  case c2 => intro u hu; simp at hu; subst hu; rfl
  case c3 => unfold maxLen; omega
  case c4 => omega
  case next =>
    intro g cap w1 hown1 hgrow hat hlt
    have hfin := Lib.hid ((hBH.out n2).grow (c := 8) hown1 hgrow)
    clear hown1 hgrow hat hlt hBH hpkH
    go_wp2
    go_ret
    exact ⟨_, rfl, hfin.out⟩

set_option maxHeartbeats 3200000 in
set_option maxRecDepth 100000 in
theorem escape_12 {w0 w : World} {rb p : Nat} {T : ByteArray} {v : Value} {l : List UInt8} {Y : List UInt8} (h : Bld w0 w rb T p v l) (ha : At T p (102 :: Y)) (hT : T.size ≤ lim) (hl : l.length + 1 ≤ lim) :
    Calls Tryz.prog 75 #[.pointer (some ⟨rb, 0, none⟩), v] w (EscOut w0 rb T (p + 1) (l ++ [12])) := by
  obtain ⟨c0, c1, c2, f1, f2⟩ := h.1.cells
  obtain ⟨i0, hi, hz0, hz1, hz2⟩ := info_parts info_u8
  have hT' : T.size ≤ 1099511627776 := hT
  have hl' : l.length + 1 ≤ 1099511627776 := hl
  have hp : p < T.size := ha.head.1
  have hsz : w0.heap.size ≤ w.heap.size := h.2.2.1.size
  have hpk : Calls Tryz.prog 60 #[.pointer (some ⟨rb, 0, none⟩)] w fun e w' => e = .returned (.int .u8 102) ∧ ∃ n, w' = w.drewN n := (peek_any h.1 ha hT).mono fun e w' hh => ⟨hh.1.trans rfl, hh.2⟩
  have hB : ∀ n, Bld w0 ((w.drewN n).setCell ⟨rb, 1, none⟩ (.int .i64 ((p : Int) + 1))) rb T (p + 1) v l := fun n => by
    have h2 := h.went (((Went.refl h.1).drewN n).put (p + 1))
    push_cast at h2
    exact h2
  have hpkH := Lib.hid hpk
  have hBH := Lib.hid hB
  clear h ha hT hl hpk hB
  go_enter Tryz.func75, Tryz.ntmps75
  go_wp2_with (first
    | (go_at_call 60; refine hpkH.out.mono ?_; rintro e w2 ⟨rfl, n2, rfl⟩)
    | (at_builtin; refine wpList_append_lies _ rfl _ _ 36 rfl w0.heap.size 5 i0 (.int .u8 0) 1 1 Tryz.underlying36 hi hz0 hz1 hz2 rfl (by omega) v l.length (bvs l) rfl ((hBH.out n2).2.1.alloc _) ⟨w.heap.size, 0, none⟩ 1 1 [.int .u8 12] rfl rfl ?c1 ?c2 (by omega) ?c3 ?c4 (by simp; omega) (w.heap.size + 1) (by simp) ?next))
  case c1 => intro j u hj; match j, hj with | 0, hj => (obtain rfl := Option.some.inj hj); exact news_at (by simp [World.setCell])
  case c2 => intro u hu; simp at hu; subst hu; rfl
  case c3 => unfold maxLen; omega
  case c4 => omega
  case next =>
    intro g cap w1 hown1 hgrow hat hlt
    have hfin := Lib.hid ((hBH.out n2).grow (c := 12) hown1 hgrow)
    clear hown1 hgrow hat hlt hBH hpkH
    go_wp2
    go_ret
    exact ⟨_, rfl, hfin.out⟩

set_option maxHeartbeats 3200000 in
set_option maxRecDepth 100000 in
theorem escape_10 {w0 w : World} {rb p : Nat} {T : ByteArray} {v : Value} {l : List UInt8} {Y : List UInt8} (h : Bld w0 w rb T p v l) (ha : At T p (110 :: Y)) (hT : T.size ≤ lim) (hl : l.length + 1 ≤ lim) :
    Calls Tryz.prog 75 #[.pointer (some ⟨rb, 0, none⟩), v] w (EscOut w0 rb T (p + 1) (l ++ [10])) := by
  obtain ⟨c0, c1, c2, f1, f2⟩ := h.1.cells
  obtain ⟨i0, hi, hz0, hz1, hz2⟩ := info_parts info_u8
  have hT' : T.size ≤ 1099511627776 := hT
  have hl' : l.length + 1 ≤ 1099511627776 := hl
  have hp : p < T.size := ha.head.1
  have hsz : w0.heap.size ≤ w.heap.size := h.2.2.1.size
  have hpk : Calls Tryz.prog 60 #[.pointer (some ⟨rb, 0, none⟩)] w fun e w' => e = .returned (.int .u8 110) ∧ ∃ n, w' = w.drewN n := (peek_any h.1 ha hT).mono fun e w' hh => ⟨hh.1.trans rfl, hh.2⟩
  have hB : ∀ n, Bld w0 ((w.drewN n).setCell ⟨rb, 1, none⟩ (.int .i64 ((p : Int) + 1))) rb T (p + 1) v l := fun n => by
    have h2 := h.went (((Went.refl h.1).drewN n).put (p + 1))
    push_cast at h2
    exact h2
  have hpkH := Lib.hid hpk
  have hBH := Lib.hid hB
  clear h ha hT hl hpk hB
  go_enter Tryz.func75, Tryz.ntmps75
  go_wp2_with (first
    | (go_at_call 60; refine hpkH.out.mono ?_; rintro e w2 ⟨rfl, n2, rfl⟩)
    | (at_builtin; refine wpList_append_lies _ rfl _ _ 36 rfl w0.heap.size 5 i0 (.int .u8 0) 1 1 Tryz.underlying36 hi hz0 hz1 hz2 rfl (by omega) v l.length (bvs l) rfl ((hBH.out n2).2.1.alloc _) ⟨w.heap.size, 0, none⟩ 1 1 [.int .u8 10] rfl rfl ?c1 ?c2 (by omega) ?c3 ?c4 (by simp; omega) (w.heap.size + 1) (by simp) ?next))
  case c1 => intro j u hj; match j, hj with | 0, hj => (obtain rfl := Option.some.inj hj); exact news_at (by simp [World.setCell])
  case c2 => intro u hu; simp at hu; subst hu; rfl
  case c3 => unfold maxLen; omega
  case c4 => omega
  case next =>
    intro g cap w1 hown1 hgrow hat hlt
    have hfin := Lib.hid ((hBH.out n2).grow (c := 10) hown1 hgrow)
    clear hown1 hgrow hat hlt hBH hpkH
    go_wp2
    go_ret
    exact ⟨_, rfl, hfin.out⟩

set_option maxHeartbeats 3200000 in
set_option maxRecDepth 100000 in
theorem escape_13 {w0 w : World} {rb p : Nat} {T : ByteArray} {v : Value} {l : List UInt8} {Y : List UInt8} (h : Bld w0 w rb T p v l) (ha : At T p (114 :: Y)) (hT : T.size ≤ lim) (hl : l.length + 1 ≤ lim) :
    Calls Tryz.prog 75 #[.pointer (some ⟨rb, 0, none⟩), v] w (EscOut w0 rb T (p + 1) (l ++ [13])) := by
  obtain ⟨c0, c1, c2, f1, f2⟩ := h.1.cells
  obtain ⟨i0, hi, hz0, hz1, hz2⟩ := info_parts info_u8
  have hT' : T.size ≤ 1099511627776 := hT
  have hl' : l.length + 1 ≤ 1099511627776 := hl
  have hp : p < T.size := ha.head.1
  have hsz : w0.heap.size ≤ w.heap.size := h.2.2.1.size
  have hpk : Calls Tryz.prog 60 #[.pointer (some ⟨rb, 0, none⟩)] w fun e w' => e = .returned (.int .u8 114) ∧ ∃ n, w' = w.drewN n := (peek_any h.1 ha hT).mono fun e w' hh => ⟨hh.1.trans rfl, hh.2⟩
  have hB : ∀ n, Bld w0 ((w.drewN n).setCell ⟨rb, 1, none⟩ (.int .i64 ((p : Int) + 1))) rb T (p + 1) v l := fun n => by
    have h2 := h.went (((Went.refl h.1).drewN n).put (p + 1))
    push_cast at h2
    exact h2
  have hpkH := Lib.hid hpk
  have hBH := Lib.hid hB
  clear h ha hT hl hpk hB
  go_enter Tryz.func75, Tryz.ntmps75
  go_wp2_with (first
    | (go_at_call 60; refine hpkH.out.mono ?_; rintro e w2 ⟨rfl, n2, rfl⟩)
    | (at_builtin; refine wpList_append_lies _ rfl _ _ 36 rfl w0.heap.size 5 i0 (.int .u8 0) 1 1 Tryz.underlying36 hi hz0 hz1 hz2 rfl (by omega) v l.length (bvs l) rfl ((hBH.out n2).2.1.alloc _) ⟨w.heap.size, 0, none⟩ 1 1 [.int .u8 13] rfl rfl ?c1 ?c2 (by omega) ?c3 ?c4 (by simp; omega) (w.heap.size + 1) (by simp) ?next))
  case c1 => intro j u hj; match j, hj with | 0, hj => (obtain rfl := Option.some.inj hj); exact news_at (by simp [World.setCell])
  case c2 => intro u hu; simp at hu; subst hu; rfl
  case c3 => unfold maxLen; omega
  case c4 => omega
  case next =>
    intro g cap w1 hown1 hgrow hat hlt
    have hfin := Lib.hid ((hBH.out n2).grow (c := 13) hown1 hgrow)
    clear hown1 hgrow hat hlt hBH hpkH
    go_wp2
    go_ret
    exact ⟨_, rfl, hfin.out⟩

set_option maxHeartbeats 3200000 in
set_option maxRecDepth 100000 in
theorem escape_9 {w0 w : World} {rb p : Nat} {T : ByteArray} {v : Value} {l : List UInt8} {Y : List UInt8} (h : Bld w0 w rb T p v l) (ha : At T p (116 :: Y)) (hT : T.size ≤ lim) (hl : l.length + 1 ≤ lim) :
    Calls Tryz.prog 75 #[.pointer (some ⟨rb, 0, none⟩), v] w (EscOut w0 rb T (p + 1) (l ++ [9])) := by
  obtain ⟨c0, c1, c2, f1, f2⟩ := h.1.cells
  obtain ⟨i0, hi, hz0, hz1, hz2⟩ := info_parts info_u8
  have hT' : T.size ≤ 1099511627776 := hT
  have hl' : l.length + 1 ≤ 1099511627776 := hl
  have hp : p < T.size := ha.head.1
  have hsz : w0.heap.size ≤ w.heap.size := h.2.2.1.size
  have hpk : Calls Tryz.prog 60 #[.pointer (some ⟨rb, 0, none⟩)] w fun e w' => e = .returned (.int .u8 116) ∧ ∃ n, w' = w.drewN n := (peek_any h.1 ha hT).mono fun e w' hh => ⟨hh.1.trans rfl, hh.2⟩
  have hB : ∀ n, Bld w0 ((w.drewN n).setCell ⟨rb, 1, none⟩ (.int .i64 ((p : Int) + 1))) rb T (p + 1) v l := fun n => by
    have h2 := h.went (((Went.refl h.1).drewN n).put (p + 1))
    push_cast at h2
    exact h2
  have hpkH := Lib.hid hpk
  have hBH := Lib.hid hB
  clear h ha hT hl hpk hB
  go_enter Tryz.func75, Tryz.ntmps75
  go_wp2_with (first
    | (go_at_call 60; refine hpkH.out.mono ?_; rintro e w2 ⟨rfl, n2, rfl⟩)
    | (at_builtin; refine wpList_append_lies _ rfl _ _ 36 rfl w0.heap.size 5 i0 (.int .u8 0) 1 1 Tryz.underlying36 hi hz0 hz1 hz2 rfl (by omega) v l.length (bvs l) rfl ((hBH.out n2).2.1.alloc _) ⟨w.heap.size, 0, none⟩ 1 1 [.int .u8 9] rfl rfl ?c1 ?c2 (by omega) ?c3 ?c4 (by simp; omega) (w.heap.size + 1) (by simp) ?next))
  case c1 => intro j u hj; match j, hj with | 0, hj => (obtain rfl := Option.some.inj hj); exact news_at (by simp [World.setCell])
  case c2 => intro u hu; simp at hu; subst hu; rfl
  case c3 => unfold maxLen; omega
  case c4 => omega
  case next =>
    intro g cap w1 hown1 hgrow hat hlt
    have hfin := Lib.hid ((hBH.out n2).grow (c := 9) hown1 hgrow)
    clear hown1 hgrow hat hlt hBH hpkH
    go_wp2
    go_ret
    exact ⟨_, rfl, hfin.out⟩

set_option maxHeartbeats 3200000 in
set_option maxRecDepth 100000 in
theorem Rune_low {w0 w : World} {rb p : Nat} {T : ByteArray} {v : Value} {l : List UInt8} {c : UInt8} {n : Int} (h : Bld w0 w rb T p v l) (hl : l.length + 1 ≤ lim) (hn : n = (c.toNat : Int)) (hc : c.toNat < 128) :
    Calls Tryz.prog 81 #[v, .int .i64 n] w (EscOut w0 rb T p (l ++ [c])) := by
  obtain ⟨i0, hi, hz0, hz1, hz2⟩ := info_parts info_u8
  have hl' : l.length + 1 ≤ 1099511627776 := hl
  have hsz : w0.heap.size ≤ w.heap.size := h.2.2.1.size
  have hn1 : n < 128 := by omega
  have hn0 : 0 ≤ n := by omega
  have hBH := Lib.hid h
  have hnH := Lib.hid hn
  clear h hl hn hc
  go_enter Tryz.func81, Tryz.ntmps81
  go_wp2_with (first
    | (at_builtin; refine wpList_append_lies _ rfl _ _ 36 rfl w0.heap.size 5 i0 (.int .u8 0) 1 1 Tryz.underlying36 hi hz0 hz1 hz2 rfl (by omega) v l.length (bvs l) rfl (hBH.out.2.1.alloc _) ⟨w.heap.size, 0, none⟩ 1 1 [.int .u8 n] rfl rfl ?c1 ?c2 (by omega) ?c3 ?c4 (by simp; omega) (w.heap.size + 1) (by simp) ?next))
  case c1 => intro j u hj; match j, hj with | 0, hj => (obtain rfl := Option.some.inj hj); exact news_at (by simp)
  case c2 => intro u hu; simp at hu; subst hu; rfl
  case c3 => unfold maxLen; omega
  case c4 => omega
  case next =>
    intro g cap w1 hown1 hgrow hat hlt
    rw [hnH.out] at hown1
    have hfin := Lib.hid (hBH.out.grow (c := c) hown1 hgrow)
    clear hown1 hgrow hat hlt hBH
    go_wp2
    go_ret
    exact ⟨_, rfl, hfin.out⟩

set_option maxHeartbeats 3200000 in
set_option maxRecDepth 100000 in
theorem escape_u {w0 w : World} {rb p : Nat} {T : ByteArray} {v : Value} {l : List UInt8} {c : UInt8} {Y : List UInt8} (h : Bld w0 w rb T p v l) (ha : At T p (117 :: 48 :: 48 :: hexD (c.toNat / 16) :: hexD (c.toNat % 16) :: Y)) (hT : T.size ≤ lim) (hl : l.length + 1 ≤ lim) (hc : c.toNat < 128) :
    Calls Tryz.prog 75 #[.pointer (some ⟨rb, 0, none⟩), v] w (EscOut w0 rb T (p + 5) (l ++ [c])) := by
  obtain ⟨c0, c1, c2, f1, f2⟩ := h.1.cells
  have hT' : T.size ≤ 1099511627776 := hT
  have hp : p < T.size := ha.head.1
  have hpk : Calls Tryz.prog 60 #[.pointer (some ⟨rb, 0, none⟩)] w fun e w' => e = .returned (.int .u8 117) ∧ ∃ n, w' = w.drewN n := (peek_any h.1 ha hT).mono fun e w' hh => ⟨hh.1.trans rfl, hh.2⟩
  have hB : ∀ n, Bld w0 ((w.drewN n).setCell ⟨rb, 1, none⟩ (.int .i64 ((p : Int) + 1))) rb T (p + 1) v l := fun n => by
    have h2 := h.went (((Went.refl h.1).drewN n).put (p + 1))
    push_cast at h2
    exact h2
  have hx : ∀ n, Calls Tryz.prog 80 #[.pointer (some ⟨rb, 0, none⟩)] ((w.drewN n).setCell ⟨rb, 1, none⟩ (.int .i64 ((p : Int) + 1))) fun e w' => e = .returned (.int .i64 (c.toNat : Int)) ∧ Bld w0 w' rb T (p + 5) v l := fun n => by
    refine (hex_any (hs := [0, 0, c.toNat / 16, c.toNat % 16]) (hB n).1 (by have := At.tail ha; simpa [hexD] using this) hT rfl (by intro d hd; simp at hd; omega)).mono ?_
    rintro e w' ⟨rfl, hw⟩
    refine ⟨?_, (hB n).went hw⟩
    congr 2
    simp [hexN]
    omega
  have hR : ∀ w', Bld w0 w' rb T (p + 5) v l → Calls Tryz.prog 81 #[v, .int .i64 (c.toNat : Int)] w' (EscOut w0 rb T (p + 5) (l ++ [c])) := fun w' hb => Rune_low hb hl rfl hc
  have hc1 : (c.toNat : Int) < 128 := by omega
  have hpkH := Lib.hid hpk
  have hxH := Lib.hid hx
  have hRH := Lib.hid hR
  clear h ha hT hl hpk hB hx hR hc
  go_enter Tryz.func75, Tryz.ntmps75
  go_wp2_with (first
    | (go_at_call 60; refine hpkH.out.mono ?_; rintro e w2 ⟨rfl, n2, rfl⟩)
    | (go_at_call 80; refine (hxH.out n2).mono ?_; rintro e w3 ⟨rfl, hb3⟩; have hb3H := Lib.hid hb3; clear hb3)
    | (go_at_call 81; refine (hRH.out _ hb3H.out).mono ?_; rintro e w4 ⟨v4, rfl, hb4⟩; have hb4H := Lib.hid hb4; clear hb4))
  go_ret
  exact ⟨v4, rfl, hb4H.out⟩

/-- Whether a byte is written as it is. -/
def plainB (c : UInt8) : Prop := 32 ≤ c.toNat ∧ c.toNat ≠ 92 ∧ c.toNat ≠ 34

theorem escB_plain {c : UInt8} (h : plainB c) : escB c = [c] := by unfold escB; unfold plainB at h; rw [if_pos h]

/-- A byte that is written with a backslash is read. -/
theorem escape_any {w0 w : World} {rb p : Nat} {T : ByteArray} {v : Value} {l : List UInt8} {c : UInt8} {Y : List UInt8} (h : Bld w0 w rb T p v l) (ha : At T p ((escB c).tail ++ Y)) (hT : T.size ≤ lim) (hl : l.length + 1 ≤ lim) (hc : ¬ plainB c) :
    Calls Tryz.prog 75 #[.pointer (some ⟨rb, 0, none⟩), v] w (EscOut w0 rb T (p + (escB c).tail.length) (l ++ [c])) ∧ ∃ E, escB c = 92 :: E := by
  have hn : ∀ d : UInt8, c.toNat = d.toNat → c = d := fun d e => UInt8.toNat_inj.1 e
  unfold escB at ha ⊢
  unfold plainB at hc
  rw [if_neg hc] at ha ⊢
  by_cases h1 : c.toNat = 92 ∨ c.toNat = 34
  · rw [if_pos h1] at ha ⊢
    rcases h1 with h1 | h1
    · obtain rfl := hn 92 h1
      exact ⟨escape_92 h ha hT hl, _, rfl⟩
    · obtain rfl := hn 34 h1
      exact ⟨escape_34 h ha hT hl, _, rfl⟩
  rw [if_neg h1] at ha ⊢
  by_cases h2 : c.toNat = 10
  · rw [if_pos h2] at ha ⊢
    obtain rfl := hn 10 h2
    exact ⟨escape_10 h ha hT hl, _, rfl⟩
  rw [if_neg h2] at ha ⊢
  by_cases h3 : c.toNat = 12
  · rw [if_pos h3] at ha ⊢
    obtain rfl := hn 12 h3
    exact ⟨escape_12 h ha hT hl, _, rfl⟩
  rw [if_neg h3] at ha ⊢
  by_cases h4 : c.toNat = 8
  · rw [if_pos h4] at ha ⊢
    obtain rfl := hn 8 h4
    exact ⟨escape_8 h ha hT hl, _, rfl⟩
  rw [if_neg h4] at ha ⊢
  by_cases h5 : c.toNat = 13
  · rw [if_pos h5] at ha ⊢
    obtain rfl := hn 13 h5
    exact ⟨escape_13 h ha hT hl, _, rfl⟩
  rw [if_neg h5] at ha ⊢
  by_cases h6 : c.toNat = 9
  · rw [if_pos h6] at ha ⊢
    obtain rfl := hn 9 h6
    exact ⟨escape_9 h ha hT hl, _, rfl⟩
  rw [if_neg h6] at ha ⊢
  exact ⟨escape_u h ha hT hl (by omega), _, rfl⟩

theorem esc_cons (c : UInt8) (r : List UInt8) : esc (c :: r) = escB c ++ esc r := by simp [esc]

set_option maxHeartbeats 3200000 in
set_option maxRecDepth 100000 in
/-- A text in quotation marks is read as what it stands for. -/
theorem quoted_any {w : World} {rb p : Nat} {T : ByteArray} {l Y : List UInt8} (h : Rdr w rb T p) (ha : At T p (34 :: (esc l ++ 34 :: Y))) (hT : T.size ≤ lim) :
    Calls Tryz.prog 62 #[.pointer (some ⟨rb, 0, none⟩)] w fun e w' => e = .returned (.string ⟨l.toArray⟩) ∧ Went w w' rb T (p + (esc l).length + 2) := by
  obtain ⟨c0, c1, c2, f1, f2⟩ := h.cells
  obtain ⟨i0, hi, hz0, hz1, hz2⟩ := info_parts info_u8
  have hT' : T.size ≤ 1099511627776 := hT
  have hlen : p + (esc l).length + 2 ≤ T.size := by have := ha.len; simp at this; omega
  have hel : l.length ≤ (esc l).length := by
    have : ∀ l : List UInt8, l.length ≤ (esc l).length := fun l => by
      induction l with
      | nil => simp [esc]
      | cons c r ih =>
        have := (escB_len c).2
        rw [esc_cons, List.length_append, List.length_cons]
        omega
    exact this l
  have hrb := h.lt
  have haH := Lib.hid ha
  have hH := Lib.hid h
  have hTH := Lib.hid hT
  have hrest : ∀ j, j ≤ l.length → At T (p + 1 + (esc (l.take j)).length) (esc (l.drop j) ++ 34 :: Y) := fun j hj => by
    have h1 := ha.tail
    have e : esc l = esc (l.take j) ++ esc (l.drop j) := by
      conv => lhs; rw [← List.take_append_drop j l]
      exact List.flatMap_append
    rw [e, List.append_assoc] at h1
    exact h1.skip
  have hrestH := Lib.hid hrest
  clear h ha hT hrest
  go_enter Tryz.func62, Tryz.ntmps62
  go_wp2_with (go_at_call_of 74 (Value.int .u8 34); refine (take_yes (c := 34) rfl (hH.out.kept (heap_alloc_old w _ _ hrb)) haH.out hTH.out).mono ?_; rintro e w1 ⟨rfl, hw1⟩; have hw1H := Lib.hid hw1; clear hw1)
  go_loopg [3] (l.length) (fun k v wr => ∃ j, j ≤ l.length ∧ k = l.length - j ∧ Hid (Bld w wr rb T (p + 1 + (esc (l.take j)).length) v (l.take j)))
  case atStart => exact ⟨0, Nat.zero_le _, rfl, Lib.hid ⟨hw1H.out.1, by have h0 := World.ownsRow_made (e := 5) (size := 1) (base := w.heap.size) w #[] 0 (Nat.le_refl _) (Nat.zero_le _) rfl; exact ⟨h0.1, h0.2.imp id fun ⟨g, cap, cur, b1, b2, b3, b4⟩ => ⟨g, cap, cur, b1, b2, by rw [hw1H.out.2.block g (Array.getElem?_eq_some_iff.1 b3).1 (by omega)]; exact b3, b4⟩⟩, (Kp.refl (fun k => k = rb) w).alloc _ |>.trans hw1H.out.2, hrb⟩⟩
  case round =>
    obtain ⟨j, hj, hk, hb⟩ := hrel
    have hat := Lib.hid (hrestH.out j hj)
    obtain ⟨q, hq⟩ : ∃ q, p + 1 + (esc (l.take j)).length = q := ⟨_, rfl⟩
    rw [hq] at hb hat
    have hqH := Lib.hid hq
    clear hq
    obtain ⟨d0, d1, d2, g1, g2⟩ := hb.out.1.cells
    have hsz : w.heap.size ≤ wr.heap.size := hb.out.2.2.1.size
    by_cases hlt : j < l.length
    · obtain ⟨c, hc⟩ : ∃ c, l[j] = c := ⟨_, rfl⟩
      have hdrop : l.drop j = c :: l.drop (j + 1) := by rw [← hc]; exact List.drop_eq_getElem_cons hlt
      have htake : l.take (j + 1) = l.take j ++ [c] := by rw [← hc]; exact List.take_succ_eq_append_getElem hlt
      have hat2 : At T q (escB c ++ (esc (l.drop (j + 1)) ++ 34 :: Y)) := by
        have := hat.out
        rw [hdrop, esc_cons, List.append_assoc] at this
        exact this
      have hlj : (l.take j).length = j := by rw [List.length_take]; omega
      have hll : j + 1 ≤ 1099511627776 := by omega
      have hnext : p + 1 + (esc (l.take (j + 1))).length = q + (escB c).length := by
        rw [htake, esc_snoc, List.length_append, ← hqH.out]; omega
      have hnextH := Lib.hid hnext
      have htakeH := Lib.hid htake
      have hljH := Lib.hid hlj
      clear hdrop hnext htake hc hat hlj
      by_cases hpl : plainB c
      · rw [escB_plain hpl] at hat2
        obtain ⟨hqT, hcq⟩ := hat2.head
        have hge : decide ((T.size : Int) ≤ (q : Int)) = false := decide_eq_false (by omega)
        have hcH := Lib.hid hcq
        have hplH := Lib.hid hpl
        have h32 : ¬ ((T[q].toNat : Int) < 32) := by rw [hcq]; have := hpl.1; omega
        have hat2H := Lib.hid hat2
        have hlen1 := Lib.hid (show (escB c).length = 1 by rw [escB_plain hpl]; rfl)
        clear hat2 hcq hpl
        go_wp2_with (go_at_call_of 74 (Value.int .u8 34); refine (take_no (c := 34) (d := c) rfl hb.out.1 hat2H.out hTH.out (by rintro rfl; exact hplH.out.2.2 rfl)).mono ?_; rintro e w2 ⟨rfl, n2, rfl⟩)
        go_quiet (fail)
        go_wp2_with (go_at_call_of 74 (Value.int .u8 92); refine (take_no (c := 92) (d := c) rfl (by exact hb.out.1) hat2H.out hTH.out (by rintro rfl; exact hplH.out.2.1 rfl)).mono ?_; rintro e w3 ⟨rfl, n3, rfl⟩)
        have hnew : ∀ W : World, W.heap.size = wr.heap.size → ∀ (k : Nat) u, [Value.int .u8 (T[q].toNat : Int)][k]? = some u → (W.alloc (.cells #[.int .u8 (T[q].toNat : Int)] 5)).cell? ((⟨wr.heap.size, 0, none⟩ : Addr).add k) = some u := fun W hW k u hk => by
          match k, hk with
          | 0, hk =>
            obtain rfl := Option.some.inj hk
            exact news_at hW
        have hone : ∀ u ∈ [Value.int .u8 (T[q].toNat : Int)], u.oneCell' = true := fun u hu => by simp at hu; subst hu; rfl
        have hnewH := Lib.hid hnew
        have honeH := Lib.hid hone
        clear hnew hone
        go_region_law (refine step_append_lies _ rfl (.tmp 21) (.tmp 31) 36 rfl w.heap.size 5 i0 (.int .u8 0) 1 1 Tryz.underlying36 hi hz0 hz1 hz2 rfl (by omega) u3 (l.take j).length (bvs (l.take j)) (by simp [Act.eval]) (by exact hb.out.2.1.alloc _) ⟨wr.heap.size, 0, none⟩ 1 1 [.int .u8 (T[q].toNat : Int)] (by simp [Act.eval]) rfl (hnewH.out _ rfl) honeH.out (by omega) (by rw [hljH.out]; unfold maxLen; omega) (by rw [hljH.out]; omega) (by simp; omega) (wr.heap.size + 1) (by simp) ?_; intro g cap w4 hown4 hgrow4 hat4 hlt4)
        all_goals
          have hb4 : Bld w w4 rb T q _ (l.take j ++ [T[q]]) := Bld.grow (c := T[q]) (by exact hb.out.drewN _) hown4 hgrow4
          rw [hcH.out, ← htakeH.out, hljH.out] at hb4
          obtain ⟨e0, e1, e2, y1, y2⟩ := hb4.1.cells
          have hb5 := hb4.went ((Went.refl hb4.1).put (q + 1))
          push_cast at hb5
          rw [show q + 1 = q + (escB c).length by rw [hlen1.out]] at hb5
          have hb5H := Lib.hid hb5
          clear hb4 hb5 hown4 hgrow4 hat4 hlt4
          go_wp2_with fail
          go_roundg (l.length - (j + 1))
          case measure => omega
          case rel => exact ⟨j + 1, by omega, rfl, by rw [hnextH.out]; exact hb5H⟩
      · obtain ⟨E, hE⟩ : ∃ E, escB c = 92 :: E := by
          have hn : ∀ d : UInt8, c.toNat = d.toNat → c = d := fun d e => UInt8.toNat_inj.1 e
          unfold escB
          unfold plainB at hpl
          rw [if_neg hpl]
          repeat' split
          all_goals exact ⟨_, rfl⟩
        have hEt : (escB c).tail = E := by rw [hE]; rfl
        have hlE : (escB c).length = E.length + 1 := by rw [hE]; rfl
        rw [hE, List.cons_append] at hat2
        obtain ⟨hqT, hcq⟩ := hat2.head
        have hge : decide ((T.size : Int) ≤ (q : Int)) = false := decide_eq_false (by omega)
        have h32 : ¬ ((T[q].toNat : Int) < 32) := by rw [hcq]; decide
        have hesc : ∀ w2, Bld w w2 rb T (q + 1) u3 (l.take j) → Calls Tryz.prog 75 #[.pointer (some ⟨rb, 0, none⟩), u3] w2 (EscOut w rb T (q + (escB c).length) (l.take (j + 1))) := fun w2 hb2 => by
          have h3 := (escape_any (c := c) (Y := esc (l.drop (j + 1)) ++ 34 :: Y) hb2 (by rw [hEt]; exact hat2.tail) hTH.out (by rw [hljH.out]; exact hll) hpl).1
          rw [hEt, show q + 1 + E.length = q + (escB c).length by omega, ← htakeH.out] at h3
          exact h3
        have hescH := Lib.hid hesc
        have hat2H := Lib.hid hat2
        clear hat2 hcq hpl hesc hE hEt hlE
        go_wp2_with (go_at_call_of 74 (Value.int .u8 34); refine (take_no (c := 34) (d := 92) rfl hb.out.1 hat2H.out hTH.out (by decide)).mono ?_; rintro e w2 ⟨rfl, n2, rfl⟩)
        go_quiet (fail)
        go_wp2_with (first
          | (go_at_call_of 74 (Value.int .u8 92); refine (take_yes (c := 92) rfl (by exact hb.out.1) hat2H.out hTH.out).mono ?_; rintro e w3 ⟨rfl, hw3⟩; have hw3 := Lib.hid (hb.out.went (Went.trans ((Went.refl hb.out.1).drewN (n2 + nq)) hw3)))
          | (go_at_call 75; refine (hescH.out _ hw3.out).mono ?_; rintro e w4 ⟨v4, rfl, hb4⟩; have hb4 := Lib.hid hb4))
        go_roundg (l.length - (j + 1))
        case measure => omega
        case rel => exact ⟨j + 1, by omega, rfl, by rw [hnextH.out]; exact hb4⟩
    · have hje : j = l.length := by omega
      subst hje
      have hat2 : At T q (34 :: Y) := by
        have := hat.out
        rw [List.drop_length] at this
        exact this
      have hat2H := Lib.hid hat2
      have hfin : p + (esc l).length + 2 = q + 1 := by
        have := hqH.out
        rw [List.take_length] at this
        omega
      have hfinH := Lib.hid hfin
      have hbl : Hid (Bld w wr rb T q u3 l) := Lib.hid (by have := hb.out; rw [List.take_length] at this; exact this)
      clear hat2 hfin hb
      go_wp2_with (go_at_call_of 74 (Value.int .u8 34); refine (take_yes (c := 34) rfl hbl.out.1 hat2H.out hTH.out).mono ?_; rintro e w2 ⟨rfl, hw2⟩; have hb2 := Lib.hid (hbl.out.went hw2); have hstr := row_string hb2.out.2.1 (rfl : w2.heap = w2.heap))
      go_ret
      exact ⟨rfl, by rw [hfinH.out]; exact ⟨hb2.out.1, hb2.out.2.2.1⟩⟩

end Go.Proofs.YtokmkkkanphihaaGreatRDoor

/- The reference's reader: values without parts (written by genRdV.py). -/
namespace Go.Proofs.YtokmkkkanphihaaGreatRDoor
open Go.RowKit Go.Sort

/-- What the reader makes of a value: a node that stands for it; it stands behind it now; else nothing has turned. -/
def VOut (w : World) (rb : Nat) (T : ByteArray) (q : Nat) (v : Val) (e : Ending) (w' : World) : Prop :=
  ∃ ls kv x y S, e = .returned (.agg (aggN v ls kv x y)) ∧ NSubs S w' v ls kv ∧ (∀ k, S k → w.heap.size ≤ k ∧ k < w'.heap.size) ∧ Went w w' rb T q

abbrev rdNode (p : Int) : Obj := .cells #[.int .i64 0, .string ⟨#[]⟩, .slice none 0 0, .slice none 0 0, .int .i64 p, .int .i64 0] 48

theorem Kp.at {X : Nat → Prop} {w w' : World} (h : Kp X w w') {b : Nat} (hb : b < w.heap.size) (hx : ¬ X b) {o : Obj} (ho : w.heap[b]? = some o) : w'.heap[b]? = some o := (h.block b hb hx).trans ho

theorem cells_of {w : World} {b : Nat} {cs : Array Value} {t : TypeId} {fr : Nat × Nat} (h : w.heap[b]? = some (.cells cs t fr)) (j : Nat) : w.cell? ⟨b, j, none⟩ = cs[j]? := by simp [World.cell?, h]
theorem free_of {w : World} {b : Nat} {cs : Array Value} {t : TypeId} (h : w.heap[b]? = some (.cells cs t (0, 0))) (j : Nat) : w.frozen? ⟨b, j, none⟩ = false := by simp [World.frozen?, h]

theorem set1 {W : World} {b : Nat} {t : TypeId} {u0 u1 u2 u3 u4 u5 v0 : Value} (h : W.heap[b]? = some (.cells #[u0, u1, u2, u3, u4, u5] t (0, 0))) :
    (W.setCell ⟨b, 0, none⟩ v0).heap[b]? = some (.cells #[v0, u1, u2, u3, u4, u5] t (0, 0)) := by
  simp [World.setCell, Array.getElem?_modify, h]

theorem set6 {W : World} {b : Nat} {t : TypeId} {u0 u1 u2 u3 u4 u5 v0 v1 v2 v3 v4 v5 : Value} (h : W.heap[b]? = some (.cells #[u0, u1, u2, u3, u4, u5] t (0, 0))) :
    ((((((W.setCell ⟨b, 0, none⟩ v0).setCell ⟨b, 1, none⟩ v1).setCell ⟨b, 2, none⟩ v2).setCell ⟨b, 3, none⟩ v3).setCell ⟨b, 4, none⟩ v4).setCell ⟨b, 5, none⟩ v5).heap[b]? = some (.cells #[v0, v1, v2, v3, v4, v5] t (0, 0)) := by
  simp [World.setCell, Array.getElem?_modify, h]

theorem other {W : World} {b c o : Nat} {x : Value} {ob : Obj} (h : W.heap[b]? = some ob) (hne : b ≠ c) : (W.setCell ⟨c, o, none⟩ x).heap[b]? = some ob := (Below.heap_setCell W ⟨c, o, none⟩ x b hne).trans h

/-- A result that lies in a block. -/
theorem results_block {fn : Func} {p : Tmp} {ty : TypeId} (h : fn.results = #[.cell p ty]) (tmps : Array Value) (P : Program) (w : World) {g : Nat} {cs : Array Value} (hp : tmps.getD p undef = .pointer (some ⟨g, 0, none⟩))
    (hl : (loadVar ty ⟨g, 0, none⟩).run P w = .ok (.agg cs) w) : (results fn tmps).run P w = .ok (.agg cs) w := by
  have hp' : tmps[p]?.getD undef = .pointer (some ⟨g, 0, none⟩) := by rw [← hp]; simp
  have ha : (asAddr (.pointer (some ⟨g, 0, none⟩))).run P w = .ok ⟨g, 0, none⟩ w := rfl
  simp only [results, h]
  simp [Sem.run_bind, Result.andThen, hp', ha, hl]

theorem infoN : (Tryz.prog.info? 48).map (·.size) = some 6 := by kernel_rfl

/-- Behind what is called when the node has been laid. -/
theorem after {w w3 : World} {p : Int} {n1 n2 : Nat} {X : Nat → Prop} (hk : Kp X ((((w.alloc (rdNode 0)).drewN n1).alloc (rdNode p)).drewN n2) w3) (hX : ∀ k, X k → k < w.heap.size ∨ k = w.heap.size + 1) :
    w3.heap[w.heap.size]? = some (rdNode 0) ∧ (¬ X (w.heap.size + 1) → w3.heap[w.heap.size + 1]? = some (rdNode p)) ∧ Kp X w w3 ∧ w.heap.size + 2 ≤ w3.heap.size := by
  have h1 : ((((w.alloc (rdNode 0)).drewN n1).alloc (rdNode p)).drewN n2).heap[w.heap.size]? = some (rdNode 0) := by
    rw [World.heap_drewN, heap_alloc_old _ _ _ (by simp), World.heap_drewN, heap_alloc_new]
  have h2 : ((((w.alloc (rdNode 0)).drewN n1).alloc (rdNode p)).drewN n2).heap[w.heap.size + 1]? = some (rdNode p) := by
    have := heap_alloc_new ((w.alloc (rdNode 0)).drewN n1) (rdNode p)
    rw [World.heap_drewN]
    simpa using this
  have hs : ((((w.alloc (rdNode 0)).drewN n1).alloc (rdNode p)).drewN n2).heap.size = w.heap.size + 2 := by simp
  refine ⟨hk.at (by omega) (fun h => by rcases hX _ h with h | h <;> omega) h1, fun hn => hk.at (by omega) hn h2, ((((Kp.refl X w).alloc _).drewN n1).alloc _ |>.drewN n2).trans hk, by have := hk.size; omega⟩

theorem Went.far {w w' : World} {rb p : Nat} {T : ByteArray} (h : Went w w' rb T p) {b o : Nat} {v : Value} (hb : w.heap.size ≤ b) (hrb : rb < w.heap.size) : Went w (w'.setCell ⟨b, o, none⟩ v) rb T p :=
  ⟨h.1.kept (Below.heap_setCell w' ⟨b, o, none⟩ v rb (by show rb ≠ b; omega)), h.2.setCell b o v (.inr hb)⟩

set_option maxHeartbeats 3200000 in
set_option maxRecDepth 100000 in
theorem value_null {w : World} {rb p q d : Nat} {T tx : ByteArray} {X : List UInt8} (h : Rdr w rb T p) (ha : At T p (110 :: X)) (hT : T.size ≤ lim) (hd : 0 < d) (hd12 : d ≤ 12)
    (hC : ∀ W, Rdr W rb T p → Calls Tryz.prog 61 #[.pointer (some ⟨rb, 0, none⟩), .string ⟨#[110, 117, 108, 108]⟩] W fun e w' => e = .returned (.string tx) ∧ Went W w' rb T q) :
    Calls Tryz.prog 36 #[.pointer (some ⟨rb, 0, none⟩), .int .i64 d] w fun e w' => e = .returned (.agg #[.int .i64 1, .string tx, .slice none 0 0, .slice none 0 0, .int .i64 p, .int .i64 q]) ∧ Went w w' rb T q := by
  obtain ⟨c0, c1, c2, f1, f2⟩ := h.cells
  have hd0 : ((d : Int) == 0) = false := by rw [beq_eq_false_iff_ne]; omega
  have hrb := h.lt
  have hpk : ∀ W, Rdr W rb T p → Calls Tryz.prog 60 #[.pointer (some ⟨rb, 0, none⟩)] W fun e w' => e = .returned (.int .u8 110) ∧ ∃ n, w' = W.drewN n := fun W hW => (peek_at hW ha hT).mono fun e w' hh => ⟨hh.1.trans (rfl), hh.2⟩
  have hbl : ∀ W, Rdr W rb T p → Calls Tryz.prog 37 #[.pointer (some ⟨rb, 0, none⟩)] W fun e w' => e = .returned (.tuple #[]) ∧ ∃ n, w' = W.drewN n := fun W hW => blanks_none hW ha hT (NoB_cons (by decide))
  have hH := Lib.hid h
  have hpkH := Lib.hid hpk
  have hblH := Lib.hid hbl
  have hCH := Lib.hid hC
  clear h ha hT hd hpk hbl hC
  go_enter Tryz.func36, Tryz.ntmps36
  go_wp2_with (first
    | (go_at_call 37; refine (hblH.out _ (hH.out.kept (heap_alloc_old w _ _ hrb))).mono ?_; rintro e w1 ⟨rfl, n1, rfl⟩)
    | (go_at_call 60; refine (hpkH.out _ (by exact hH.out.kept ((heap_alloc_old _ _ _ (by simp; omega)).trans (heap_alloc_old w _ _ hrb)))).mono ?_; rintro e w2 ⟨rfl, n2, rfl⟩)
    | (go_at_call 61; refine (hCH.out _ (by exact hH.out.kept ((heap_alloc_old _ _ _ (by simp; omega)).trans (heap_alloc_old w _ _ hrb)))).mono ?_; rintro e w3 ⟨rfl, hw3⟩; obtain ⟨hz, hnn, hkp, hsz⟩ := after hw3.2 (fun k hk => .inl (by omega)); have hnb := hnn (by omega); obtain ⟨d0, d1, d2, g1, g2⟩ := hw3.1.cells; have k0 := cells_of hnb 0; have k1 := cells_of hnb 1; have k2 := cells_of hnb 2; have k3 := cells_of hnb 3; have k4 := cells_of hnb 4; have k5 := cells_of hnb 5; have y0 := free_of hnb 0; have y1 := free_of hnb 1; have y5 := free_of hnb 5; have z0 := cells_of hz 0; have z1 := cells_of hz 1; have z2 := cells_of hz 2; have z3 := cells_of hz 3; have z4 := cells_of hz 4; have z5 := cells_of hz 5; have x0 := free_of hz 0; have x1 := free_of hz 1; have x2 := free_of hz 2; have x3 := free_of hz 3; have x4 := free_of hz 4; have x5 := free_of hz 5; have hW3 : Hid (Went w w3 rb T q) := Lib.hid ⟨hw3.1, hkp⟩; simp only [List.getElem?_toArray, List.getElem?_cons_zero, List.getElem?_cons_succ] at k0 k1 k2 k3 k4 k5 z0 z1 z2 z3 z4 z5; have hzH := Lib.hid hz; clear hw3 hz hnn hnb hkp))
  have hfin := set6 (v0 := .int .i64 1) (v1 := .string tx) (v2 := .slice none 0 0) (v3 := .slice none 0 0) (v4 := .int .i64 p) (v5 := .int .i64 q) (other (c := w.heap.size + 1) (o := 5) (x := .int .i64 q) (other (c := w.heap.size + 1) (o := 1) (x := .string tx) (other (c := w.heap.size + 1) (o := 0) (x := .int .i64 1) hzH.out (by omega)) (by omega)) (by omega))
  refine bodyPost_ret (results_block rfl _ _ _ rfl (run_loadVar_row _ _ _ _ _ _ _ hfin Tryz.underlying48 rfl infoN)) rfl ⟨rfl, ?_⟩
  exact ((((((((hW3.out.far (by omega) hrb).far (by omega) hrb).far (by omega) hrb).far (Nat.le_refl _) hrb).far (Nat.le_refl _) hrb).far (Nat.le_refl _) hrb).far (Nat.le_refl _) hrb).far (Nat.le_refl _) hrb).far (Nat.le_refl _) hrb

set_option maxHeartbeats 3200000 in
set_option maxRecDepth 100000 in
theorem value_true {w : World} {rb p q d : Nat} {T tx : ByteArray} {X : List UInt8} (h : Rdr w rb T p) (ha : At T p (116 :: X)) (hT : T.size ≤ lim) (hd : 0 < d) (hd12 : d ≤ 12)
    (hC : ∀ W, Rdr W rb T p → Calls Tryz.prog 61 #[.pointer (some ⟨rb, 0, none⟩), .string ⟨#[116, 114, 117, 101]⟩] W fun e w' => e = .returned (.string tx) ∧ Went W w' rb T q) :
    Calls Tryz.prog 36 #[.pointer (some ⟨rb, 0, none⟩), .int .i64 d] w fun e w' => e = .returned (.agg #[.int .i64 2, .string tx, .slice none 0 0, .slice none 0 0, .int .i64 p, .int .i64 q]) ∧ Went w w' rb T q := by
  obtain ⟨c0, c1, c2, f1, f2⟩ := h.cells
  have hd0 : ((d : Int) == 0) = false := by rw [beq_eq_false_iff_ne]; omega
  have hrb := h.lt
  have hpk : ∀ W, Rdr W rb T p → Calls Tryz.prog 60 #[.pointer (some ⟨rb, 0, none⟩)] W fun e w' => e = .returned (.int .u8 116) ∧ ∃ n, w' = W.drewN n := fun W hW => (peek_at hW ha hT).mono fun e w' hh => ⟨hh.1.trans (rfl), hh.2⟩
  have hbl : ∀ W, Rdr W rb T p → Calls Tryz.prog 37 #[.pointer (some ⟨rb, 0, none⟩)] W fun e w' => e = .returned (.tuple #[]) ∧ ∃ n, w' = W.drewN n := fun W hW => blanks_none hW ha hT (NoB_cons (by decide))
  have hH := Lib.hid h
  have hpkH := Lib.hid hpk
  have hblH := Lib.hid hbl
  have hCH := Lib.hid hC
  clear h ha hT hd hpk hbl hC
  go_enter Tryz.func36, Tryz.ntmps36
  go_wp2_with (first
    | (go_at_call 37; refine (hblH.out _ (hH.out.kept (heap_alloc_old w _ _ hrb))).mono ?_; rintro e w1 ⟨rfl, n1, rfl⟩)
    | (go_at_call 60; refine (hpkH.out _ (by exact hH.out.kept ((heap_alloc_old _ _ _ (by simp; omega)).trans (heap_alloc_old w _ _ hrb)))).mono ?_; rintro e w2 ⟨rfl, n2, rfl⟩)
    | (go_at_call 61; refine (hCH.out _ (by exact hH.out.kept ((heap_alloc_old _ _ _ (by simp; omega)).trans (heap_alloc_old w _ _ hrb)))).mono ?_; rintro e w3 ⟨rfl, hw3⟩; obtain ⟨hz, hnn, hkp, hsz⟩ := after hw3.2 (fun k hk => .inl (by omega)); have hnb := hnn (by omega); obtain ⟨d0, d1, d2, g1, g2⟩ := hw3.1.cells; have k0 := cells_of hnb 0; have k1 := cells_of hnb 1; have k2 := cells_of hnb 2; have k3 := cells_of hnb 3; have k4 := cells_of hnb 4; have k5 := cells_of hnb 5; have y0 := free_of hnb 0; have y1 := free_of hnb 1; have y5 := free_of hnb 5; have z0 := cells_of hz 0; have z1 := cells_of hz 1; have z2 := cells_of hz 2; have z3 := cells_of hz 3; have z4 := cells_of hz 4; have z5 := cells_of hz 5; have x0 := free_of hz 0; have x1 := free_of hz 1; have x2 := free_of hz 2; have x3 := free_of hz 3; have x4 := free_of hz 4; have x5 := free_of hz 5; have hW3 : Hid (Went w w3 rb T q) := Lib.hid ⟨hw3.1, hkp⟩; simp only [List.getElem?_toArray, List.getElem?_cons_zero, List.getElem?_cons_succ] at k0 k1 k2 k3 k4 k5 z0 z1 z2 z3 z4 z5; have hzH := Lib.hid hz; clear hw3 hz hnn hnb hkp))
  have hfin := set6 (v0 := .int .i64 2) (v1 := .string tx) (v2 := .slice none 0 0) (v3 := .slice none 0 0) (v4 := .int .i64 p) (v5 := .int .i64 q) (other (c := w.heap.size + 1) (o := 5) (x := .int .i64 q) (other (c := w.heap.size + 1) (o := 1) (x := .string tx) (other (c := w.heap.size + 1) (o := 0) (x := .int .i64 2) hzH.out (by omega)) (by omega)) (by omega))
  refine bodyPost_ret (results_block rfl _ _ _ rfl (run_loadVar_row _ _ _ _ _ _ _ hfin Tryz.underlying48 rfl infoN)) rfl ⟨rfl, ?_⟩
  exact ((((((((hW3.out.far (by omega) hrb).far (by omega) hrb).far (by omega) hrb).far (Nat.le_refl _) hrb).far (Nat.le_refl _) hrb).far (Nat.le_refl _) hrb).far (Nat.le_refl _) hrb).far (Nat.le_refl _) hrb).far (Nat.le_refl _) hrb

set_option maxHeartbeats 3200000 in
set_option maxRecDepth 100000 in
theorem value_false {w : World} {rb p q d : Nat} {T tx : ByteArray} {X : List UInt8} (h : Rdr w rb T p) (ha : At T p (102 :: X)) (hT : T.size ≤ lim) (hd : 0 < d) (hd12 : d ≤ 12)
    (hC : ∀ W, Rdr W rb T p → Calls Tryz.prog 61 #[.pointer (some ⟨rb, 0, none⟩), .string ⟨#[102, 97, 108, 115, 101]⟩] W fun e w' => e = .returned (.string tx) ∧ Went W w' rb T q) :
    Calls Tryz.prog 36 #[.pointer (some ⟨rb, 0, none⟩), .int .i64 d] w fun e w' => e = .returned (.agg #[.int .i64 2, .string tx, .slice none 0 0, .slice none 0 0, .int .i64 p, .int .i64 q]) ∧ Went w w' rb T q := by
  obtain ⟨c0, c1, c2, f1, f2⟩ := h.cells
  have hd0 : ((d : Int) == 0) = false := by rw [beq_eq_false_iff_ne]; omega
  have hrb := h.lt
  have hpk : ∀ W, Rdr W rb T p → Calls Tryz.prog 60 #[.pointer (some ⟨rb, 0, none⟩)] W fun e w' => e = .returned (.int .u8 102) ∧ ∃ n, w' = W.drewN n := fun W hW => (peek_at hW ha hT).mono fun e w' hh => ⟨hh.1.trans (rfl), hh.2⟩
  have hbl : ∀ W, Rdr W rb T p → Calls Tryz.prog 37 #[.pointer (some ⟨rb, 0, none⟩)] W fun e w' => e = .returned (.tuple #[]) ∧ ∃ n, w' = W.drewN n := fun W hW => blanks_none hW ha hT (NoB_cons (by decide))
  have hH := Lib.hid h
  have hpkH := Lib.hid hpk
  have hblH := Lib.hid hbl
  have hCH := Lib.hid hC
  clear h ha hT hd hpk hbl hC
  go_enter Tryz.func36, Tryz.ntmps36
  go_wp2_with (first
    | (go_at_call 37; refine (hblH.out _ (hH.out.kept (heap_alloc_old w _ _ hrb))).mono ?_; rintro e w1 ⟨rfl, n1, rfl⟩)
    | (go_at_call 60; refine (hpkH.out _ (by exact hH.out.kept ((heap_alloc_old _ _ _ (by simp; omega)).trans (heap_alloc_old w _ _ hrb)))).mono ?_; rintro e w2 ⟨rfl, n2, rfl⟩)
    | (go_at_call 61; refine (hCH.out _ (by exact hH.out.kept ((heap_alloc_old _ _ _ (by simp; omega)).trans (heap_alloc_old w _ _ hrb)))).mono ?_; rintro e w3 ⟨rfl, hw3⟩; obtain ⟨hz, hnn, hkp, hsz⟩ := after hw3.2 (fun k hk => .inl (by omega)); have hnb := hnn (by omega); obtain ⟨d0, d1, d2, g1, g2⟩ := hw3.1.cells; have k0 := cells_of hnb 0; have k1 := cells_of hnb 1; have k2 := cells_of hnb 2; have k3 := cells_of hnb 3; have k4 := cells_of hnb 4; have k5 := cells_of hnb 5; have y0 := free_of hnb 0; have y1 := free_of hnb 1; have y5 := free_of hnb 5; have z0 := cells_of hz 0; have z1 := cells_of hz 1; have z2 := cells_of hz 2; have z3 := cells_of hz 3; have z4 := cells_of hz 4; have z5 := cells_of hz 5; have x0 := free_of hz 0; have x1 := free_of hz 1; have x2 := free_of hz 2; have x3 := free_of hz 3; have x4 := free_of hz 4; have x5 := free_of hz 5; have hW3 : Hid (Went w w3 rb T q) := Lib.hid ⟨hw3.1, hkp⟩; simp only [List.getElem?_toArray, List.getElem?_cons_zero, List.getElem?_cons_succ] at k0 k1 k2 k3 k4 k5 z0 z1 z2 z3 z4 z5; have hzH := Lib.hid hz; clear hw3 hz hnn hnb hkp))
  have hfin := set6 (v0 := .int .i64 2) (v1 := .string tx) (v2 := .slice none 0 0) (v3 := .slice none 0 0) (v4 := .int .i64 p) (v5 := .int .i64 q) (other (c := w.heap.size + 1) (o := 5) (x := .int .i64 q) (other (c := w.heap.size + 1) (o := 1) (x := .string tx) (other (c := w.heap.size + 1) (o := 0) (x := .int .i64 2) hzH.out (by omega)) (by omega)) (by omega))
  refine bodyPost_ret (results_block rfl _ _ _ rfl (run_loadVar_row _ _ _ _ _ _ _ hfin Tryz.underlying48 rfl infoN)) rfl ⟨rfl, ?_⟩
  exact ((((((((hW3.out.far (by omega) hrb).far (by omega) hrb).far (by omega) hrb).far (Nat.le_refl _) hrb).far (Nat.le_refl _) hrb).far (Nat.le_refl _) hrb).far (Nat.le_refl _) hrb).far (Nat.le_refl _) hrb).far (Nat.le_refl _) hrb

set_option maxHeartbeats 3200000 in
set_option maxRecDepth 100000 in
theorem value_text {w : World} {rb p q d : Nat} {T tx : ByteArray} {X : List UInt8} (h : Rdr w rb T p) (ha : At T p (34 :: X)) (hT : T.size ≤ lim) (hd : 0 < d) (hd12 : d ≤ 12)
    (hC : ∀ W, Rdr W rb T p → Calls Tryz.prog 62 #[.pointer (some ⟨rb, 0, none⟩)] W fun e w' => e = .returned (.string tx) ∧ Went W w' rb T q) :
    Calls Tryz.prog 36 #[.pointer (some ⟨rb, 0, none⟩), .int .i64 d] w fun e w' => e = .returned (.agg #[.int .i64 5, .string tx, .slice none 0 0, .slice none 0 0, .int .i64 p, .int .i64 q]) ∧ Went w w' rb T q := by
  obtain ⟨c0, c1, c2, f1, f2⟩ := h.cells
  have hd0 : ((d : Int) == 0) = false := by rw [beq_eq_false_iff_ne]; omega
  have hrb := h.lt
  have hpk : ∀ W, Rdr W rb T p → Calls Tryz.prog 60 #[.pointer (some ⟨rb, 0, none⟩)] W fun e w' => e = .returned (.int .u8 34) ∧ ∃ n, w' = W.drewN n := fun W hW => (peek_at hW ha hT).mono fun e w' hh => ⟨hh.1.trans (rfl), hh.2⟩
  have hbl : ∀ W, Rdr W rb T p → Calls Tryz.prog 37 #[.pointer (some ⟨rb, 0, none⟩)] W fun e w' => e = .returned (.tuple #[]) ∧ ∃ n, w' = W.drewN n := fun W hW => blanks_none hW ha hT (NoB_cons (by decide))
  have hH := Lib.hid h
  have hpkH := Lib.hid hpk
  have hblH := Lib.hid hbl
  have hCH := Lib.hid hC
  clear h ha hT hd hpk hbl hC
  go_enter Tryz.func36, Tryz.ntmps36
  go_wp2_with (first
    | (go_at_call 37; refine (hblH.out _ (hH.out.kept (heap_alloc_old w _ _ hrb))).mono ?_; rintro e w1 ⟨rfl, n1, rfl⟩)
    | (go_at_call 60; refine (hpkH.out _ (by exact hH.out.kept ((heap_alloc_old _ _ _ (by simp; omega)).trans (heap_alloc_old w _ _ hrb)))).mono ?_; rintro e w2 ⟨rfl, n2, rfl⟩)
    | (go_at_call 62; refine (hCH.out _ (by exact hH.out.kept ((heap_alloc_old _ _ _ (by simp; omega)).trans (heap_alloc_old w _ _ hrb)))).mono ?_; rintro e w3 ⟨rfl, hw3⟩; obtain ⟨hz, hnn, hkp, hsz⟩ := after hw3.2 (fun k hk => .inl (by omega)); have hnb := hnn (by omega); obtain ⟨d0, d1, d2, g1, g2⟩ := hw3.1.cells; have k0 := cells_of hnb 0; have k1 := cells_of hnb 1; have k2 := cells_of hnb 2; have k3 := cells_of hnb 3; have k4 := cells_of hnb 4; have k5 := cells_of hnb 5; have y0 := free_of hnb 0; have y1 := free_of hnb 1; have y5 := free_of hnb 5; have z0 := cells_of hz 0; have z1 := cells_of hz 1; have z2 := cells_of hz 2; have z3 := cells_of hz 3; have z4 := cells_of hz 4; have z5 := cells_of hz 5; have x0 := free_of hz 0; have x1 := free_of hz 1; have x2 := free_of hz 2; have x3 := free_of hz 3; have x4 := free_of hz 4; have x5 := free_of hz 5; have hW3 : Hid (Went w w3 rb T q) := Lib.hid ⟨hw3.1, hkp⟩; simp only [List.getElem?_toArray, List.getElem?_cons_zero, List.getElem?_cons_succ] at k0 k1 k2 k3 k4 k5 z0 z1 z2 z3 z4 z5; have hzH := Lib.hid hz; clear hw3 hz hnn hnb hkp))
  have hfin := set6 (v0 := .int .i64 5) (v1 := .string tx) (v2 := .slice none 0 0) (v3 := .slice none 0 0) (v4 := .int .i64 p) (v5 := .int .i64 q) (other (c := w.heap.size + 1) (o := 5) (x := .int .i64 q) (other (c := w.heap.size + 1) (o := 1) (x := .string tx) (other (c := w.heap.size + 1) (o := 0) (x := .int .i64 5) hzH.out (by omega)) (by omega)) (by omega))
  refine bodyPost_ret (results_block rfl _ _ _ rfl (run_loadVar_row _ _ _ _ _ _ _ hfin Tryz.underlying48 rfl infoN)) rfl ⟨rfl, ?_⟩
  exact ((((((((hW3.out.far (by omega) hrb).far (by omega) hrb).far (by omega) hrb).far (Nat.le_refl _) hrb).far (Nat.le_refl _) hrb).far (Nat.le_refl _) hrb).far (Nat.le_refl _) hrb).far (Nat.le_refl _) hrb).far (Nat.le_refl _) hrb

set_option maxHeartbeats 3200000 in
set_option maxRecDepth 100000 in
theorem value_num {w : World} {rb p q d : Nat} {T tx : ByteArray} {c : UInt8} {X : List UInt8} (h : Rdr w rb T p) (ha : At T p (c :: X)) (hT : T.size ≤ lim) (hd : 0 < d) (hd12 : d ≤ 12) (hc : c = 45 ∨ isD c)
    (hC : ∀ W, Rdr W rb T p → Calls Tryz.prog 64 #[.pointer (some ⟨rb, 0, none⟩)] W fun e w' => e = .returned (.string tx) ∧ Went W w' rb T q) :
    Calls Tryz.prog 36 #[.pointer (some ⟨rb, 0, none⟩), .int .i64 d] w fun e w' => e = .returned (.agg #[.int .i64 3, .string tx, .slice none 0 0, .slice none 0 0, .int .i64 p, .int .i64 q]) ∧ Went w w' rb T q := by
  obtain ⟨c0, c1, c2, f1, f2⟩ := h.cells
  have hd0 : ((d : Int) == 0) = false := by rw [beq_eq_false_iff_ne]; omega
  have hrb := h.lt
  obtain ⟨cv, hcv⟩ : ∃ cv : Int, cv = (c.toNat : Int) := ⟨_, rfl⟩
  have hcb : cv = 45 ∨ (48 ≤ cv ∧ cv ≤ 57) := by
    rcases hc with rfl | hc
    · left; rw [hcv]; rfl
    · right; unfold isD at hc; omega
  have n1 : (cv == 110) = false := by rw [beq_eq_false_iff_ne]; omega
  have n2 : (cv == 116) = false := by rw [beq_eq_false_iff_ne]; omega
  have n3 : (cv == 102) = false := by rw [beq_eq_false_iff_ne]; omega
  have n4 : (cv == 34) = false := by rw [beq_eq_false_iff_ne]; omega
  have n5 : (cv == 91) = false := by rw [beq_eq_false_iff_ne]; omega
  have n6 : (cv == 123) = false := by rw [beq_eq_false_iff_ne]; omega
  have hnb : c ≠ 32 ∧ c ≠ 9 ∧ c ≠ 10 ∧ c ≠ 13 := by
    refine ⟨?_, ?_, ?_, ?_⟩ <;> (rintro rfl; rcases hc with hc | hc; exact absurd hc (by decide); exact absurd hc (by unfold isD; decide))
  have hcvH := Lib.hid hcv
  have hnbH := Lib.hid hnb
  clear hcv hcb hnb hc
  have hpk : ∀ W, Rdr W rb T p → Calls Tryz.prog 60 #[.pointer (some ⟨rb, 0, none⟩)] W fun e w' => e = .returned (.int .u8 cv) ∧ ∃ n, w' = W.drewN n := fun W hW => (peek_at hW ha hT).mono fun e w' hh => ⟨hh.1.trans (by rw [hcvH.out]), hh.2⟩
  have hbl : ∀ W, Rdr W rb T p → Calls Tryz.prog 37 #[.pointer (some ⟨rb, 0, none⟩)] W fun e w' => e = .returned (.tuple #[]) ∧ ∃ n, w' = W.drewN n := fun W hW => blanks_none hW ha hT (NoB_cons hnbH.out)
  have hH := Lib.hid h
  have hpkH := Lib.hid hpk
  have hblH := Lib.hid hbl
  have hCH := Lib.hid hC
  clear h ha hT hd hpk hbl hC
  go_enter Tryz.func36, Tryz.ntmps36
  go_wp2_with (first
    | (go_at_call 37; refine (hblH.out _ (hH.out.kept (heap_alloc_old w _ _ hrb))).mono ?_; rintro e w1 ⟨rfl, n1, rfl⟩)
    | (go_at_call 60; refine (hpkH.out _ (by exact hH.out.kept ((heap_alloc_old _ _ _ (by simp; omega)).trans (heap_alloc_old w _ _ hrb)))).mono ?_; rintro e w2 ⟨rfl, n2, rfl⟩)
    | (go_at_call 64; refine (hCH.out _ (by exact hH.out.kept ((heap_alloc_old _ _ _ (by simp; omega)).trans (heap_alloc_old w _ _ hrb)))).mono ?_; rintro e w3 ⟨rfl, hw3⟩; obtain ⟨hz, hnn, hkp, hsz⟩ := after hw3.2 (fun k hk => .inl (by omega)); have hnb := hnn (by omega); obtain ⟨d0, d1, d2, g1, g2⟩ := hw3.1.cells; have k0 := cells_of hnb 0; have k1 := cells_of hnb 1; have k2 := cells_of hnb 2; have k3 := cells_of hnb 3; have k4 := cells_of hnb 4; have k5 := cells_of hnb 5; have y0 := free_of hnb 0; have y1 := free_of hnb 1; have y5 := free_of hnb 5; have z0 := cells_of hz 0; have z1 := cells_of hz 1; have z2 := cells_of hz 2; have z3 := cells_of hz 3; have z4 := cells_of hz 4; have z5 := cells_of hz 5; have x0 := free_of hz 0; have x1 := free_of hz 1; have x2 := free_of hz 2; have x3 := free_of hz 3; have x4 := free_of hz 4; have x5 := free_of hz 5; have hW3 : Hid (Went w w3 rb T q) := Lib.hid ⟨hw3.1, hkp⟩; simp only [List.getElem?_toArray, List.getElem?_cons_zero, List.getElem?_cons_succ] at k0 k1 k2 k3 k4 k5 z0 z1 z2 z3 z4 z5; have hzH := Lib.hid hz; clear hw3 hz hnn hnb hkp))
  have hfin := set6 (v0 := .int .i64 3) (v1 := .string tx) (v2 := .slice none 0 0) (v3 := .slice none 0 0) (v4 := .int .i64 p) (v5 := .int .i64 q) (other (c := w.heap.size + 1) (o := 5) (x := .int .i64 q) (other (c := w.heap.size + 1) (o := 1) (x := .string tx) (other (c := w.heap.size + 1) (o := 0) (x := .int .i64 3) hzH.out (by omega)) (by omega)) (by omega))
  refine bodyPost_ret (results_block rfl _ _ _ rfl (run_loadVar_row _ _ _ _ _ _ _ hfin Tryz.underlying48 rfl infoN)) rfl ⟨rfl, ?_⟩
  exact ((((((((hW3.out.far (by omega) hrb).far (by omega) hrb).far (by omega) hrb).far (Nat.le_refl _) hrb).far (Nat.le_refl _) hrb).far (Nat.le_refl _) hrb).far (Nat.le_refl _) hrb).far (Nat.le_refl _) hrb).far (Nat.le_refl _) hrb

/-- What the reader makes of a list or an object: its node holds the parts. -/
def POut (W : World) (rb nb : Nat) (T : ByteArray) (q : Nat) (kd x : Int) (l : List Val) (ks : List ByteArray) (w' : World) : Prop :=
  ∃ lv kv S, w'.heap[nb]? = some (.cells #[.int .i64 kd, .string ⟨#[]⟩, lv, kv, .int .i64 x, .int .i64 0] 48 (0, 0)) ∧ NodesIn S w' l lv ∧ KeysIn S w' ks kv ∧
    (∀ k, S k → W.heap.size ≤ k ∧ k < w'.heap.size) ∧ Rdr w' rb T q ∧ Kp (fun k => k = rb ∨ k = nb) W w'

theorem same_set {W : World} {b c o : Nat} {x : Value} (hne : b ≠ c) : (W.setCell ⟨c, o, none⟩ x).heap[b]? = W.heap[b]? := Below.heap_setCell W ⟨c, o, none⟩ x b hne

/-- The world in which the parts are read. -/
abbrev partsW (w : World) (p kd : Int) (n1 n2 rb : Nat) : World := (((((w.alloc (rdNode 0)).drewN n1).alloc (rdNode p)).drewN n2).setCell ⟨w.heap.size + 1, 0, none⟩ (.int .i64 kd)).setCell ⟨rb, 1, none⟩ (.int .i64 (p + 1))

def PAft (w : World) (rb : Nat) (T : ByteArray) (q : Nat) (kd x : Int) (l : List Val) (ks : List ByteArray) (w3 : World) : Prop :=
  ∃ lv kv S, w3.heap[w.heap.size]? = some (rdNode 0) ∧ w3.heap[w.heap.size + 1]? = some (.cells #[.int .i64 kd, .string ⟨#[]⟩, lv, kv, .int .i64 x, .int .i64 0] 48 (0, 0)) ∧ NodesIn S w3 l lv ∧ KeysIn S w3 ks kv ∧
    (∀ k, S k → w.heap.size + 2 ≤ k ∧ k < w3.heap.size) ∧ Went w w3 rb T q

theorem parts_pre {w : World} {rb p : Nat} {kd : Int} {n1 n2 : Nat} {T : ByteArray} (h : Rdr w rb T p) :
    Rdr (partsW w p kd n1 n2 rb) rb T (p + 1) ∧ (partsW w p kd n1 n2 rb).heap.size = w.heap.size + 2 ∧ (partsW w p kd n1 n2 rb).heap[w.heap.size]? = some (rdNode 0) ∧
      (partsW w p kd n1 n2 rb).heap[w.heap.size + 1]? = some (.cells #[.int .i64 kd, .string ⟨#[]⟩, .slice none 0 0, .slice none 0 0, .int .i64 p, .int .i64 0] 48 (0, 0)) ∧ Kp (fun k => k = rb) w (partsW w p kd n1 n2 rb) := by
  have hrb := h.lt
  obtain ⟨a1, a2, a3, a4⟩ := after (w := w) (p := p) (n1 := n1) (n2 := n2) (Kp.refl (fun k => k = rb) _) (fun k hk => .inl (by omega))
  have b2 := a2 (by omega)
  have hR : Rdr ((((w.alloc (rdNode 0)).drewN n1).alloc (rdNode p)).drewN n2) rb T p := h.kept ((heap_alloc_old _ _ _ (by simp; omega)).trans (heap_alloc_old w _ _ hrb))
  refine ⟨?_, by simp [World.setCell], ?_, ?_, ?_⟩
  · have := (hR.kept (same_set (c := w.heap.size + 1) (o := 0) (x := .int .i64 kd) (by omega))).put (p + 1)
    push_cast at this
    exact this
  · exact other (other a1 (by omega)) (by omega)
  · exact other (set1 b2) (by omega)
  · exact (a3.setCell _ _ _ (.inr (by omega))).setCell _ _ _ (.inl rfl)

theorem parts_aft {w w3 : World} {rb p q : Nat} {kd x : Int} {n1 n2 : Nat} {T : ByteArray} {l : List Val} {ks : List ByteArray} (h : Rdr w rb T p) (hP : POut (partsW w p kd n1 n2 rb) rb (w.heap.size + 1) T q kd x l ks w3) : PAft w rb T q kd x l ks w3 := by
  have hrb := h.lt
  obtain ⟨r1, r2, r3, r4, r5⟩ := parts_pre (kd := kd) (n1 := n1) (n2 := n2) h
  obtain ⟨lv, kv, S, p1, p2, p3, p4, p5, p6⟩ := hP
  refine ⟨lv, kv, S, p6.at (by omega) (by omega) r3, p1, p2, p3, fun k hk => by have := p4 k hk; omega, p5, ?_⟩
  have hs := r5.size
  refine ⟨p6.os.trans r5.os, p6.tape.trans r5.tape, p6.output.trans r5.output, by have := p6.size; omega, fun k hk hx => ?_⟩
  exact (p6.block k (by omega) (by omega)).trans (r5.block k hk hx)

set_option maxHeartbeats 3200000 in
set_option maxRecDepth 100000 in
theorem value_list {w : World} {rb p q d : Nat} {T : ByteArray} {X : List UInt8} {l : List Val} {ks : List ByteArray} (h : Rdr w rb T p) (ha : At T p (91 :: X)) (hT : T.size ≤ lim) (hd : 0 < d) (hd12 : d ≤ 12)
    (hC : ∀ W nb, Rdr W rb T (p + 1) → nb ≠ rb → W.heap[nb]? = some (.cells #[.int .i64 6, .string ⟨#[]⟩, .slice none 0 0, .slice none 0 0, .int .i64 p, .int .i64 0] 48 (0, 0)) →
      Calls Tryz.prog 63 #[.pointer (some ⟨rb, 0, none⟩), .pointer (some ⟨nb, 0, none⟩), .int .u8 93, .int .i64 d] W fun e w' => e = .returned (.tuple #[]) ∧ POut W rb nb T q 6 p l ks w') :
    Calls Tryz.prog 36 #[.pointer (some ⟨rb, 0, none⟩), .int .i64 d] w fun e w' => ∃ lv kv S, e = .returned (.agg #[.int .i64 6, .string ⟨#[]⟩, lv, kv, .int .i64 p, .int .i64 q]) ∧ NodesIn S w' l lv ∧ KeysIn S w' ks kv ∧
      (∀ k, S k → w.heap.size ≤ k ∧ k < w'.heap.size) ∧ Went w w' rb T q := by
  obtain ⟨c0, c1, c2, f1, f2⟩ := h.cells
  have hd0 : ((d : Int) == 0) = false := by rw [beq_eq_false_iff_ne]; omega
  have hrb := h.lt
  have hTs : T.size ≤ 1099511627776 := hT
  have hp : p < T.size := ha.head.1
  have hpk : ∀ W, Rdr W rb T p → Calls Tryz.prog 60 #[.pointer (some ⟨rb, 0, none⟩)] W fun e w' => e = .returned (.int .u8 91) ∧ ∃ n, w' = W.drewN n := fun W hW => (peek_at hW ha hT).mono fun e w' hh => ⟨hh.1.trans rfl, hh.2⟩
  have hbl : ∀ W, Rdr W rb T p → Calls Tryz.prog 37 #[.pointer (some ⟨rb, 0, none⟩)] W fun e w' => e = .returned (.tuple #[]) ∧ ∃ n, w' = W.drewN n := fun W hW => blanks_none hW ha hT (NoB_cons (by decide))
  have hC2 : ∀ n1 n2, Calls Tryz.prog 63 #[.pointer (some ⟨rb, 0, none⟩), .pointer (some ⟨w.heap.size + 1, 0, none⟩), .int .u8 93, .int .i64 d] (partsW w p 6 n1 n2 rb) fun e w' => e = .returned (.tuple #[]) ∧ PAft w rb T q 6 p l ks w' := fun n1 n2 => by
    obtain ⟨r1, r2, r3, r4, r5⟩ := parts_pre (kd := 6) (n1 := n1) (n2 := n2) h
    exact (hC _ _ r1 (by omega) r4).mono fun e w' hh => ⟨hh.1, parts_aft h hh.2⟩
  have hH := Lib.hid h
  have hpkH := Lib.hid hpk
  have hblH := Lib.hid hbl
  have hC2H := Lib.hid hC2
  clear h ha hT hd hpk hbl hC hC2
  go_enter Tryz.func36, Tryz.ntmps36
  go_wp2_with (first
    | (go_at_call 37; refine (hblH.out _ (hH.out.kept (heap_alloc_old w _ _ hrb))).mono ?_; rintro e w1 ⟨rfl, n1, rfl⟩)
    | (go_at_call 60; refine (hpkH.out _ (by exact hH.out.kept ((heap_alloc_old _ _ _ (by simp; omega)).trans (heap_alloc_old w _ _ hrb)))).mono ?_; rintro e w2 ⟨rfl, n2, rfl⟩)
    | (go_at_call 63; refine (hC2H.out n1 n2).mono ?_; rintro e w3 ⟨rfl, lv, kv, S, hz, hnb, hL, hK, hS, hw3⟩; obtain ⟨ao, ac, rfl, hLx⟩ := id hL; obtain ⟨ak, kc, rfl, hKx⟩ := id hK; clear hLx hKx; obtain ⟨d0, d1, d2, g1, g2⟩ := hw3.1.cells; have k0 := cells_of hnb 0; have k1 := cells_of hnb 1; have k2 := cells_of hnb 2; have k3 := cells_of hnb 3; have k4 := cells_of hnb 4; have k5 := cells_of hnb 5; have y0 := free_of hnb 0; have y1 := free_of hnb 1; have y5 := free_of hnb 5; have z0 := cells_of hz 0; have z1 := cells_of hz 1; have z2 := cells_of hz 2; have z3 := cells_of hz 3; have z4 := cells_of hz 4; have z5 := cells_of hz 5; have x0 := free_of hz 0; have x1 := free_of hz 1; have x2 := free_of hz 2; have x3 := free_of hz 3; have x4 := free_of hz 4; have x5 := free_of hz 5; simp only [List.getElem?_toArray, List.getElem?_cons_zero, List.getElem?_cons_succ] at k0 k1 k2 k3 k4 k5 z0 z1 z2 z3 z4 z5; have hzH := Lib.hid hz; have hW3 := Lib.hid hw3; have hLH := Lib.hid hL; have hKH := Lib.hid hK; have hSH := Lib.hid hS; clear hw3 hz hnb hL hK hS))
  have hfin := set6 (v0 := .int .i64 6) (v1 := .string ⟨#[]⟩) (v2 := .slice ao l.length ac) (v3 := .slice ak ks.length kc) (v4 := .int .i64 p) (v5 := .int .i64 q) (other (c := w.heap.size + 1) (o := 5) (x := .int .i64 q) hzH.out (by omega))
  have hfar : ∀ k, S k → _ = _ := fun k hk => by
    have hk2 := hSH.out k hk
    exact (same_set (W := (((((w3.setCell ⟨w.heap.size + 1, 5, none⟩ (.int .i64 q)).setCell ⟨w.heap.size, 0, none⟩ (.int .i64 6)).setCell ⟨w.heap.size, 1, none⟩ (.string ⟨#[]⟩)).setCell ⟨w.heap.size, 2, none⟩ (.slice ao l.length ac)).setCell ⟨w.heap.size, 3, none⟩ (.slice ak ks.length kc)).setCell ⟨w.heap.size, 4, none⟩ (.int .i64 p)) (c := w.heap.size) (o := 5) (x := .int .i64 q) (by omega)).trans ((same_set (by omega)).trans ((same_set (by omega)).trans ((same_set (by omega)).trans ((same_set (by omega)).trans ((same_set (by omega)).trans (same_set (by omega) : _ = w3.heap[k]?))))))
  have hwf := ((((((hW3.out.far (b := w.heap.size + 1) (o := 5) (v := .int .i64 q) (by omega) hrb).far (o := 0) (v := .int .i64 6) (Nat.le_refl _) hrb).far (o := 1) (v := .string ⟨#[]⟩) (Nat.le_refl _) hrb).far (o := 2) (v := .slice ao l.length ac) (Nat.le_refl _) hrb).far (o := 3) (v := .slice ak ks.length kc) (Nat.le_refl _) hrb).far (o := 4) (v := .int .i64 p) (Nat.le_refl _) hrb).far (o := 5) (v := .int .i64 q) (Nat.le_refl _) hrb
  refine bodyPost_ret (results_block rfl _ _ _ rfl (run_loadVar_row _ _ _ _ _ _ _ hfin Tryz.underlying48 rfl infoN)) rfl ⟨_, _, S, rfl, hLH.out.step hfar (fun _ h => h), hKH.out.step hfar (fun _ h => h), fun k hk => ?_, hwf⟩
  have := hSH.out k hk
  simp [World.setCell]
  omega

set_option maxHeartbeats 3200000 in
set_option maxRecDepth 100000 in
theorem value_obj {w : World} {rb p q d : Nat} {T : ByteArray} {X : List UInt8} {l : List Val} {ks : List ByteArray} (h : Rdr w rb T p) (ha : At T p (123 :: X)) (hT : T.size ≤ lim) (hd : 0 < d) (hd12 : d ≤ 12)
    (hC : ∀ W nb, Rdr W rb T (p + 1) → nb ≠ rb → W.heap[nb]? = some (.cells #[.int .i64 7, .string ⟨#[]⟩, .slice none 0 0, .slice none 0 0, .int .i64 p, .int .i64 0] 48 (0, 0)) →
      Calls Tryz.prog 63 #[.pointer (some ⟨rb, 0, none⟩), .pointer (some ⟨nb, 0, none⟩), .int .u8 125, .int .i64 d] W fun e w' => e = .returned (.tuple #[]) ∧ POut W rb nb T q 7 p l ks w') :
    Calls Tryz.prog 36 #[.pointer (some ⟨rb, 0, none⟩), .int .i64 d] w fun e w' => ∃ lv kv S, e = .returned (.agg #[.int .i64 7, .string ⟨#[]⟩, lv, kv, .int .i64 p, .int .i64 q]) ∧ NodesIn S w' l lv ∧ KeysIn S w' ks kv ∧
      (∀ k, S k → w.heap.size ≤ k ∧ k < w'.heap.size) ∧ Went w w' rb T q := by
  obtain ⟨c0, c1, c2, f1, f2⟩ := h.cells
  have hd0 : ((d : Int) == 0) = false := by rw [beq_eq_false_iff_ne]; omega
  have hrb := h.lt
  have hTs : T.size ≤ 1099511627776 := hT
  have hp : p < T.size := ha.head.1
  have hpk : ∀ W, Rdr W rb T p → Calls Tryz.prog 60 #[.pointer (some ⟨rb, 0, none⟩)] W fun e w' => e = .returned (.int .u8 123) ∧ ∃ n, w' = W.drewN n := fun W hW => (peek_at hW ha hT).mono fun e w' hh => ⟨hh.1.trans rfl, hh.2⟩
  have hbl : ∀ W, Rdr W rb T p → Calls Tryz.prog 37 #[.pointer (some ⟨rb, 0, none⟩)] W fun e w' => e = .returned (.tuple #[]) ∧ ∃ n, w' = W.drewN n := fun W hW => blanks_none hW ha hT (NoB_cons (by decide))
  have hC2 : ∀ n1 n2, Calls Tryz.prog 63 #[.pointer (some ⟨rb, 0, none⟩), .pointer (some ⟨w.heap.size + 1, 0, none⟩), .int .u8 125, .int .i64 d] (partsW w p 7 n1 n2 rb) fun e w' => e = .returned (.tuple #[]) ∧ PAft w rb T q 7 p l ks w' := fun n1 n2 => by
    obtain ⟨r1, r2, r3, r4, r5⟩ := parts_pre (kd := 7) (n1 := n1) (n2 := n2) h
    exact (hC _ _ r1 (by omega) r4).mono fun e w' hh => ⟨hh.1, parts_aft h hh.2⟩
  have hH := Lib.hid h
  have hpkH := Lib.hid hpk
  have hblH := Lib.hid hbl
  have hC2H := Lib.hid hC2
  clear h ha hT hd hpk hbl hC hC2
  go_enter Tryz.func36, Tryz.ntmps36
  go_wp2_with (first
    | (go_at_call 37; refine (hblH.out _ (hH.out.kept (heap_alloc_old w _ _ hrb))).mono ?_; rintro e w1 ⟨rfl, n1, rfl⟩)
    | (go_at_call 60; refine (hpkH.out _ (by exact hH.out.kept ((heap_alloc_old _ _ _ (by simp; omega)).trans (heap_alloc_old w _ _ hrb)))).mono ?_; rintro e w2 ⟨rfl, n2, rfl⟩)
    | (go_at_call 63; refine (hC2H.out n1 n2).mono ?_; rintro e w3 ⟨rfl, lv, kv, S, hz, hnb, hL, hK, hS, hw3⟩; obtain ⟨ao, ac, rfl, hLx⟩ := id hL; obtain ⟨ak, kc, rfl, hKx⟩ := id hK; clear hLx hKx; obtain ⟨d0, d1, d2, g1, g2⟩ := hw3.1.cells; have k0 := cells_of hnb 0; have k1 := cells_of hnb 1; have k2 := cells_of hnb 2; have k3 := cells_of hnb 3; have k4 := cells_of hnb 4; have k5 := cells_of hnb 5; have y0 := free_of hnb 0; have y1 := free_of hnb 1; have y5 := free_of hnb 5; have z0 := cells_of hz 0; have z1 := cells_of hz 1; have z2 := cells_of hz 2; have z3 := cells_of hz 3; have z4 := cells_of hz 4; have z5 := cells_of hz 5; have x0 := free_of hz 0; have x1 := free_of hz 1; have x2 := free_of hz 2; have x3 := free_of hz 3; have x4 := free_of hz 4; have x5 := free_of hz 5; simp only [List.getElem?_toArray, List.getElem?_cons_zero, List.getElem?_cons_succ] at k0 k1 k2 k3 k4 k5 z0 z1 z2 z3 z4 z5; have hzH := Lib.hid hz; have hW3 := Lib.hid hw3; have hLH := Lib.hid hL; have hKH := Lib.hid hK; have hSH := Lib.hid hS; clear hw3 hz hnb hL hK hS))
  have hfin := set6 (v0 := .int .i64 7) (v1 := .string ⟨#[]⟩) (v2 := .slice ao l.length ac) (v3 := .slice ak ks.length kc) (v4 := .int .i64 p) (v5 := .int .i64 q) (other (c := w.heap.size + 1) (o := 5) (x := .int .i64 q) hzH.out (by omega))
  have hfar : ∀ k, S k → _ = _ := fun k hk => by
    have hk2 := hSH.out k hk
    exact (same_set (W := (((((w3.setCell ⟨w.heap.size + 1, 5, none⟩ (.int .i64 q)).setCell ⟨w.heap.size, 0, none⟩ (.int .i64 7)).setCell ⟨w.heap.size, 1, none⟩ (.string ⟨#[]⟩)).setCell ⟨w.heap.size, 2, none⟩ (.slice ao l.length ac)).setCell ⟨w.heap.size, 3, none⟩ (.slice ak ks.length kc)).setCell ⟨w.heap.size, 4, none⟩ (.int .i64 p)) (c := w.heap.size) (o := 5) (x := .int .i64 q) (by omega)).trans ((same_set (by omega)).trans ((same_set (by omega)).trans ((same_set (by omega)).trans ((same_set (by omega)).trans ((same_set (by omega)).trans (same_set (by omega) : _ = w3.heap[k]?))))))
  have hwf := ((((((hW3.out.far (b := w.heap.size + 1) (o := 5) (v := .int .i64 q) (by omega) hrb).far (o := 0) (v := .int .i64 7) (Nat.le_refl _) hrb).far (o := 1) (v := .string ⟨#[]⟩) (Nat.le_refl _) hrb).far (o := 2) (v := .slice ao l.length ac) (Nat.le_refl _) hrb).far (o := 3) (v := .slice ak ks.length kc) (Nat.le_refl _) hrb).far (o := 4) (v := .int .i64 p) (Nat.le_refl _) hrb).far (o := 5) (v := .int .i64 q) (Nat.le_refl _) hrb
  refine bodyPost_ret (results_block rfl _ _ _ rfl (run_loadVar_row _ _ _ _ _ _ _ hfin Tryz.underlying48 rfl infoN)) rfl ⟨_, _, S, rfl, hLH.out.step hfar (fun _ h => h), hKH.out.step hfar (fun _ h => h), fun k hk => ?_, hwf⟩
  have := hSH.out k hk
  simp [World.setCell]
  omega


end Go.Proofs.YtokmkkkanphihaaGreatRDoor
