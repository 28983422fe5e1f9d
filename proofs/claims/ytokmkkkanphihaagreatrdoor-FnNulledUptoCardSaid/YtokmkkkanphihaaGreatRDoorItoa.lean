/- What strconv.AppendInt, AppendUint and AppendBool put behind a row of bytes that is owned. -/
import Derived.Test.YtokmkkkanphihaaGreatRDoorYEnc
import Derived.Test.YtokmkkkanphihaaGreatRDoorShelf
import Derived.Lib.AppendIntMem
import Derived.Lib.ItoaMem
namespace Go.Proofs.YtokmkkkanphihaaGreatRDoor
open Go.RowKit Go.Sort

/-- A row of bytes, longer by a text: what a function that appends hands back. -/
structure BufTo (w : World) (N : Nat) (v : Value) (out' : List UInt8) (v' : Value) (w' : World) : Prop where
  own : w'.ownsRow N 5 1 v' out'.length (bvs out')
  grown : w.grownBy w' v.ownBlock
  lies : v'.ownBlock = v.ownBlock ∨ ∃ g, w.heap.size ≤ g ∧ v'.ownBlock = some g

def RetBuf (w : World) (N : Nat) (v : Value) (out' : List UInt8) (e : Ending) (w' : World) : Prop := ∃ v', e = .returned v' ∧ BufTo w N v out' v' w'

theorem ownsRow_step {w w' : World} {N n : Nat} {T : TypeId} {v : Value} {xs : List Value} (hb : ∀ k, k < w.heap.size → w'.heap[k]? = w.heap[k]?) (h : w.ownsRow N T 1 v n xs) : w'.ownsRow N T 1 v n xs := by
  obtain ⟨a1, a2⟩ := h
  refine ⟨a1, ?_⟩
  rcases a2 with a2 | ⟨g, cap, cur, b1, b2, b3, b4⟩
  · exact .inl a2
  · refine .inr ⟨g, cap, cur, b1, b2, ?_, b4⟩
    have hg : g < w.heap.size := by
      rcases Nat.lt_or_ge g w.heap.size with h | h
      · exact h
      · rw [Array.getElem?_eq_none h] at b3; cases b3
    exact (hb g hg).trans b3

theorem BufTo.trans {w w1 w2 : World} {N : Nat} {v v1 v2 : Value} {o1 o2 : List UInt8} (h : BufTo w N v o1 v1 w1) (k : BufTo w1 N v1 o2 v2 w2) : BufTo w N v o2 v2 w2 := by
  refine ⟨k.own, ⟨k.grown.os.trans h.grown.os, k.grown.tape.trans h.grown.tape, k.grown.output.trans h.grown.output, Nat.le_trans h.grown.size k.grown.size, fun i hi hb => ?_⟩, ?_⟩
  · refine (k.grown.block i (Nat.lt_of_lt_of_le hi h.grown.size) ?_).trans (h.grown.block i hi hb)
    rcases h.lies with h1 | ⟨g, hg, h1⟩
    · rw [h1]; exact hb
    · rw [h1]; intro hx; cases hx; omega
  · rcases k.lies with k1 | ⟨g, hg, k1⟩
    · rw [k1]; exact h.lies
    · exact .inr ⟨g, Nat.le_trans h.grown.size hg, k1⟩

/-- Blocks that are new, draws: nothing of it is seen. -/
theorem BufTo.pre {w w1 w2 : World} {N : Nat} {v v2 : Value} {o2 : List UInt8} (hb : ∀ k, k < w.heap.size → w1.heap[k]? = w.heap[k]?) (hs : w.heap.size ≤ w1.heap.size) (hos : w1.os = w.os) (htp : w1.tape = w.tape) (hou : w1.output = w.output)
    (k : BufTo w1 N v o2 v2 w2) : BufTo w N v o2 v2 w2 := by
  refine ⟨k.own, ⟨k.grown.os.trans hos, k.grown.tape.trans htp, k.grown.output.trans hou, Nat.le_trans hs k.grown.size, fun i hi hb' => ?_⟩, ?_⟩
  · exact (k.grown.block i (Nat.lt_of_lt_of_le hi hs) hb').trans (hb i hi)
  · rcases k.lies with k1 | ⟨g, hg, k1⟩
    · exact .inl k1
    · exact .inr ⟨g, Nat.le_trans hs hg, k1⟩

theorem decDigits_len {u : Nat} (h1 : u < 18446744073709551616) : (Lib.decDigits u).length ≤ 20 ∧ 1 ≤ (Lib.decDigits u).length := by
  rw [Lib.decDigits_length]
  by_cases h0 : u = 0
  · subst h0; rw [Lib.nDigits_small (by omega)]; omega
  · have := Lib.numDigits_eq u (by omega) h1
    constructor
    · split at this <;> omega
    · rw [Lib.nDigits]; split <;> omega

set_option maxHeartbeats 1600000 in
set_option maxRecDepth 100000 in
theorem appendUint_small {w : World} {N u : Nat} {v : Value} {out : List UInt8} (hu : u < 100) (hown : w.ownsRow N 5 1 v out.length (bvs out)) (hN : N ≤ w.heap.size) (hlim : out.length + 20 ≤ lim) :
    Calls Tryz.prog 82 #[v, .int .u64 (u : Int), .int .i64 10] w (RetBuf w N v (out ++ Lib.decDigits u)) := by
  obtain ⟨i0, hi, hz0, hz1, hz2⟩ := info_parts info_u8
  have hl := decDigits_len (u := u) (by omega)
  have hlim' : out.length + 20 ≤ 1099511627776 := hlim
  have hsz : (⟨(Lib.decDigits u).toArray⟩ : ByteArray).size = (Lib.decDigits u).length := by simp [ByteArray.size]
  have hownH := Lib.hid hown
  clear hlim hown
  go_enter Tryz.func82, Tryz.ntmps82
  go_wp2_with (first
    | (go_at_call 85; refine (Tryz.internal_strconv_small u hu _).mono ?_; rintro e w' ⟨rfl, rfl⟩)
    | (at_builtin; refine wpList_append_string_lies rfl (.tmp 13) (.tmp 16) 36 9 rfl N 5 i0 Tryz.underlying36 Tryz.underlying9 hi hz0 hz1 hz2 v out.length (bvs out) rfl hownH.out ⟨(Lib.decDigits u).toArray⟩ rfl (by rw [hsz]; omega) (by rw [hsz]; unfold maxLen; omega) (by rw [hsz]; omega) hN ?_))
  intro g c w1 hown1 hgrow hat
  go_wp2
  go_ret
  refine ⟨_, rfl, ?_, hgrow, ?_⟩
  · rw [List.length_append, bvs_append]
    exact hown1
  · rcases hat with h | h
    · left; rw [h]; rfl
    · right; exact ⟨g, by omega, rfl⟩


theorem grow_same (W : World) (os : Array Obj) (k : Nat) (h : k < W.heap.size) : (grow W os).heap[k]? = W.heap[k]? := by
  show (W.heap ++ os)[k]? = _
  rw [Array.getElem?_append_left h]

set_option maxHeartbeats 6400000 in
set_option maxRecDepth 100000 in
theorem appendUint_big {w : World} {N u : Nat} {v : Value} {out : List UInt8} (hu : 100 ≤ u) (hu64 : u < 18446744073709551616) (hown : w.ownsRow N 5 1 v out.length (bvs out)) (hN : N ≤ w.heap.size) (hlim : out.length + 20 ≤ lim)
    (htab : Lib.TabIs Tryz.prog w "internal/strconv.uint64pow10" .u64 Lib.pow10Tab) :
    Calls Tryz.prog 82 #[v, .int .u64 (u : Int), .int .i64 10] w (RetBuf w N v (out ++ Lib.decDigits u)) := by
  obtain ⟨i0, hi, hz0, hz1, hz2⟩ := info_parts info_u8
  have hl := decDigits_len hu64
  have hlim' : out.length + 20 ≤ 1099511627776 := hlim
  clear hlim
  have hu1 : 1 ≤ u := by omega
  have hndl : Lib.nDigits u = (Lib.decDigits u).length := (Lib.decDigits_length u).symm
  have hnd20 : Lib.nDigits u ≤ 20 := by omega
  have hnd1 : 1 ≤ Lib.nDigits u := by omega
  have hal : Tryz.prog.arrayLen 139 = 24 := by kernel_rfl
  have hsl : ∀ W : World, (Instr.sliceAt 139 (.pointer (some ⟨w.heap.size, 0, none⟩)) none (some (.int .i64 (Lib.nDigits u : Int))) none).run Tryz.prog W = .ok (.slice (some ⟨w.heap.size, 0, none⟩) (Lib.nDigits u) 24) W := fun W => by
    rw [run_sliceAt_array_h W 139 ⟨w.heap.size, 0, none⟩ Tryz.underlying139 .i64 (Lib.nDigits u : Int) (by omega) (by rw [hal]; omega)]
    go_simp
  have hH0 := Lib.holds_zero0 w 139 (Lib.nDigits u) (by omega)
  have hfmt := Tryz.internal_strconv_formatBase10 w.heap.size 0 24 u (Array.replicate (Lib.nDigits u) 0) (w.alloc (.cells Lib.zeros24 139)) hH0 (by rw [Array.size_replicate]; exact Lib.lt_pow_nDigits u) hu64 (by rw [Array.size_replicate]; omega)
  rw [Array.size_replicate] at hfmt
  have HH0 := Lib.hid hH0
  have iu : (100 : Int) ≤ (u : Int) := by omega
  have htabH := Lib.hid htab
  have hownH := Lib.hid hown
  have hndlH := Lib.hid hndl
  clear hH0 hal htab hown hndl
  go_enter Tryz.func82, Tryz.ntmps82
  go_wp2_with (first
    | (go_at_call 86; refine (Tryz.internal_strconv_numDigits u hu1 hu64 _ (Lib.tabIs_alloc htabH.out _)).mono ?_; rintro e w' ⟨rfl, rfl⟩))
  go_at_call 87
  refine hfmt.mono ?_
  rintro e w' ⟨rfl, k, v', dk, rfl, hF⟩
  obtain ⟨os, eo⟩ := Lib.fin_at w (.cells Lib.zeros24 139) dk k 0
  have hsame : ∀ i, i < w.heap.size → ((putRow (fun (b : UInt8) => Value.int .u8 (b.toNat : Int)) (w.alloc (.cells Lib.zeros24 139)) w.heap.size 0 dk).drewN k).heap[i]? = w.heap[i]? := by
    intro i hi
    rw [eo]
    exact grow_same (w.drewN k) os i hi
  have hcells : ∀ j u', (bvs (Lib.decDigits u))[j]? = some u' → ((putRow (fun (b : UInt8) => Value.int .u8 (b.toNat : Int)) (w.alloc (.cells Lib.zeros24 139)) w.heap.size 0 dk).drewN k).cell? ((⟨w.heap.size, 0, none⟩ : Addr).add j) = some u' := by
    intro j u' hj
    have hjl : j < (Lib.decDigits u).length := by
      have h5 := (List.getElem?_eq_some_iff.1 hj).1
      simpa using h5
    have e5 : (bvs (Lib.decDigits u))[j]? = some (Value.int .u8 ((Lib.decDigits u)[j].toNat : Int)) := by simp [bvs, bv, hjl]
    rw [e5] at hj
    cases hj
    rw [Lib.row_is_numeral hF j hjl, Lib.add_plain, World.cell?_drewN]
    exact cell?_putRow (fun (b : UInt8) => Value.int .u8 (b.toNat : Int)) _ w.heap.size 0 _ dk HH0.out (by rw [hF.size, Array.size_replicate]) j (by rw [hF.size]; rw [Lib.decDigits_length] at hjl; exact hjl)
  have hown2 := ownsRow_step hsame hownH.out
  have hsz2 : ((putRow (fun (b : UInt8) => Value.int .u8 (b.toNat : Int)) (w.alloc (.cells Lib.zeros24 139)) w.heap.size 0 dk).drewN k).heap.size = w.heap.size + 1 := by simp
  have hos2 : ((putRow (fun (b : UInt8) => Value.int .u8 (b.toNat : Int)) (w.alloc (.cells Lib.zeros24 139)) w.heap.size 0 dk).drewN k).os = w.os := rfl
  have htp2 : ((putRow (fun (b : UInt8) => Value.int .u8 (b.toNat : Int)) (w.alloc (.cells Lib.zeros24 139)) w.heap.size 0 dk).drewN k).tape = w.tape := rfl
  have hou2 : ((putRow (fun (b : UInt8) => Value.int .u8 (b.toNat : Int)) (w.alloc (.cells Lib.zeros24 139)) w.heap.size 0 dk).drewN k).output = w.output := rfl
  have hsameH := Lib.hid hsame
  have hcellsH := Lib.hid hcells
  have hown2H := Lib.hid hown2
  have hos2H := Lib.hid hos2
  have htp2H := Lib.hid htp2
  have hou2H := Lib.hid hou2
  have hsz2H := Lib.hid hsz2
  clear hsame hcells hown2 hos2 htp2 hou2 hsz2 hfmt HH0 eo hF
  generalize (putRow (fun (b : UInt8) => Value.int .u8 (b.toNat : Int)) (w.alloc (.cells Lib.zeros24 139)) w.heap.size 0 dk).drewN k = W at *
  go_wp2_with (at_builtin; refine wpList_append_lies _ rfl (.tmp 24) (.tmp 26) 36 rfl N 5 i0 (.int .u8 0) 1 1 Tryz.underlying36 hi hz0 hz1 hz2 rfl (by omega) v out.length (bvs out) rfl hown2H.out ⟨w.heap.size, 0, none⟩ (Lib.nDigits u) 24 (bvs (Lib.decDigits u)) rfl (by rw [bvs_length, hndlH.out, Nat.mul_one]) hcellsH.out (by intro x hx; simp [bvs, bv] at hx; obtain ⟨b, _, rfl⟩ := hx; rfl) (by omega) (by unfold maxLen; omega) (by omega) (by rw [hsz2H.out]; omega) W.heap.size rfl ?_)
  intro g c w1 hown1 hgrow hat hlt
  go_wp2
  go_ret
  refine ⟨_, rfl, BufTo.pre hsameH.out (by rw [hsz2H.out]; omega) hos2H.out htp2H.out hou2H.out ⟨?_, hgrow, ?_⟩⟩
  · rw [List.length_append, bvs_append, ← hndlH.out]
    exact hown1
  · rcases hat with h | h
    · left; rw [h]; rfl
    · right; exact ⟨g, by omega, rfl⟩

theorem appendUint_any {w : World} {N u : Nat} {v : Value} {out : List UInt8} (hu64 : u < 18446744073709551616) (hown : w.ownsRow N 5 1 v out.length (bvs out)) (hN : N ≤ w.heap.size) (hlim : out.length + 20 ≤ lim)
    (htab : Lib.TabIs Tryz.prog w "internal/strconv.uint64pow10" .u64 Lib.pow10Tab) :
    Calls Tryz.prog 82 #[v, .int .u64 (u : Int), .int .i64 10] w (RetBuf w N v (out ++ Lib.decDigits u)) := by
  by_cases h : u < 100
  · exact appendUint_small h hown hN hlim
  · exact appendUint_big (by omega) hu64 hown hN hlim htab

theorem tabIs_step {w w' : World} (hb : ∀ k, k < w.heap.size → w'.heap[k]? = w.heap[k]?) (h : Lib.TabIs Tryz.prog w "internal/strconv.uint64pow10" .u64 Lib.pow10Tab) : Lib.TabIs Tryz.prog w' "internal/strconv.uint64pow10" .u64 Lib.pow10Tab := by
  unfold Lib.TabIs World.var? at *
  have e : Tryz.prog.globalNamed "internal/strconv.uint64pow10" = some 1 := by kernel_rfl
  rw [e] at h ⊢
  simp only [Option.bind_some] at h ⊢
  have hlt : 1 < w.heap.size := by
    rcases Nat.lt_or_ge 1 w.heap.size with h' | h'
    · exact h'
    · rw [Array.getElem?_eq_none h'] at h; simp at h
  rw [hb _ hlt]; exact h

set_option maxHeartbeats 3200000 in
set_option maxRecDepth 100000 in
theorem appendInt_neg {w : World} {N : Nat} {n : Nat} {v : Value} {out : List UInt8} (h0 : 0 < n) (h1 : n ≤ 9223372036854775808) (hown : w.ownsRow N 5 1 v out.length (bvs out)) (hN : N ≤ w.heap.size) (hlim : out.length + 21 ≤ lim)
    (htab : Lib.TabIs Tryz.prog w "internal/strconv.uint64pow10" .u64 Lib.pow10Tab) (hrow : v.ownBlock ≠ some 1) :
    Calls Tryz.prog 78 #[v, .int .i64 (-(n : Int)), .int .i64 10] w (RetBuf w N v (out ++ Lib.itoa (-(n : Int)))) := by
  obtain ⟨i0, hi, hz0, hz1, hz2⟩ := info_parts info_u8
  have hlim' : out.length + 21 ≤ 1099511627776 := hlim
  have hownA : (w.alloc (.cells #[.int .u8 45] 5)).ownsRow N 5 1 v out.length (bvs out) := hown.alloc _
  have hconv : IntKind.u64.wrap (-(n : Int)) = 18446744073709551616 - (n : Int) := by rw [IntKind.wrap_u64]; omega
  have hneg : IntKind.u64.wrap (-(18446744073709551616 - (n : Int))) = (n : Int) := by rw [IntKind.wrap_u64]; omega
  have hlt : -(n : Int) < 0 := by omega
  have hitoa : Lib.itoa (-(n : Int)) = 45 :: Lib.decDigits n := by unfold Lib.itoa; rw [if_pos hlt]; simp
  have htabA := tabIs_step (w' := w.alloc (.cells #[.int .u8 45] 5)) (fun k hk => heap_alloc_old w _ k hk) htab
  have htabH := Lib.hid htabA
  have hownH := Lib.hid hownA
  have hitoaH := Lib.hid hitoa
  have hrowH := Lib.hid hrow
  clear hlim hown htab htabA hownA hitoa hrow
  go_enter Tryz.func78, Tryz.ntmps78
  go_wp2_with (at_builtin; refine wpList_append_lies _ rfl (.tmp 12) (.tmp 13) 36 rfl N 5 i0 (.int .u8 0) 1 1 Tryz.underlying36 hi hz0 hz1 hz2 rfl (by omega) v out.length (bvs out) rfl hownH.out ⟨w.heap.size, 0, none⟩ 1 1 [.int .u8 45] rfl rfl (World.news_of_block (heap_alloc_new w _)) (by intro u hu; simp at hu; subst hu; rfl) (by omega) (by unfold maxLen; omega) (by omega) (by simp; omega) (w.heap.size + 1) (by simp) ?_)
  intro g c w1 hown1 hgrow hat hlt
  have hb1 : BufTo w N v (out ++ [45]) (.slice (some ⟨g, 0, none⟩) (out.length + 1) c) w1 := by
    refine BufTo.pre (w1 := w.alloc (.cells #[.int .u8 45] 5)) (fun k hk => heap_alloc_old w _ k hk) (by simp) rfl rfl rfl ⟨?_, hgrow, ?_⟩
    · rw [List.length_append, bvs_append]; exact hown1
    · rcases hat with h | h
      · left; rw [h]; rfl
      · right; exact ⟨g, by simp; omega, rfl⟩
  have htab1 : Lib.TabIs Tryz.prog w1 "internal/strconv.uint64pow10" .u64 Lib.pow10Tab := by
    have h := htabH.out
    unfold Lib.TabIs World.var? at *
    have e : Tryz.prog.globalNamed "internal/strconv.uint64pow10" = some 1 := by kernel_rfl
    rw [e] at h ⊢
    simp only [Option.bind_some] at h ⊢
    have hlt : 1 < (w.alloc (.cells #[.int .u8 45] 5)).heap.size := by
      rcases Nat.lt_or_ge 1 (w.alloc (.cells #[.int .u8 45] 5)).heap.size with h' | h'
      · exact h'
      · rw [Array.getElem?_eq_none h'] at h; simp at h
    rw [hgrow.block _ hlt (Ne.symm hrowH.out)]; exact h
  have hb1H := Lib.hid hb1
  have htab1H := Lib.hid htab1
  have hown1H := Lib.hid hown1
  have hN1 : N ≤ w1.heap.size := by have := hgrow.size; simp at this; omega
  clear hb1 htab1 htabH hgrow hat hown1 hlt
  have hl1 : (out ++ [45]).length = out.length + 1 := by simp
  have hl1H := Lib.hid hl1
  clear hl1
  go_wp2_with (go_at_call 82; refine (appendUint_any (out := out ++ [45]) (by omega) (by rw [hl1H.out, bvs_append]; exact hown1H.out) hN1 (by rw [hl1H.out]; exact hlim') htab1H.out).mono ?_; rintro e w2 ⟨v2, rfl, hb2⟩; have hb2H := Lib.hid hb2; clear hb2)
  go_ret
  refine ⟨v2, rfl, ?_⟩
  have h := BufTo.trans hb1H.out hb2H.out
  rw [hitoaH.out]
  rw [List.append_assoc] at h
  exact h

set_option maxHeartbeats 3200000 in
set_option maxRecDepth 100000 in
theorem appendInt_nonneg {w : World} {N : Nat} {n : Nat} {v : Value} {out : List UInt8} (h1 : n ≤ 9223372036854775807) (hown : w.ownsRow N 5 1 v out.length (bvs out)) (hN : N ≤ w.heap.size) (hlim : out.length + 21 ≤ lim)
    (htab : Lib.TabIs Tryz.prog w "internal/strconv.uint64pow10" .u64 Lib.pow10Tab) :
    Calls Tryz.prog 78 #[v, .int .i64 (n : Int), .int .i64 10] w (RetBuf w N v (out ++ Lib.itoa (n : Int))) := by
  have hconv : IntKind.u64.wrap (n : Int) = (n : Int) := by rw [IntKind.wrap_u64]; omega
  have hlt : ¬ (n : Int) < 0 := by omega
  have hitoa : Lib.itoa (n : Int) = Lib.decDigits n := by unfold Lib.itoa; rw [if_neg hlt]; simp
  have hlim' : out.length + 20 ≤ lim := Nat.le_trans (by omega) hlim
  have htabH := Lib.hid htab
  have hownH := Lib.hid hown
  have hitoaH := Lib.hid hitoa
  clear htab hown hitoa hlim
  go_enter Tryz.func78, Tryz.ntmps78
  go_wp2_with (go_at_call 82; refine (appendUint_any (by omega) hownH.out hN hlim' htabH.out).mono ?_; rintro e w2 ⟨v2, rfl, hb2⟩; have hb2H := Lib.hid hb2; clear hb2)
  go_ret
  refine ⟨v2, rfl, ?_⟩
  rw [hitoaH.out]
  exact hb2H.out

/-- strconv.AppendInt at base 10. -/
theorem AppendInt_any {w : World} {N : Nat} {i : Int} {v : Value} {out : List UInt8} (h0 : -9223372036854775808 ≤ i) (h1 : i ≤ 9223372036854775807) (hown : w.ownsRow N 5 1 v out.length (bvs out)) (hN : N ≤ w.heap.size) (hlim : out.length + 21 ≤ lim)
    (htab : Lib.TabIs Tryz.prog w "internal/strconv.uint64pow10" .u64 Lib.pow10Tab) (hrow : v.ownBlock ≠ some 1) :
    Calls Tryz.prog 71 #[v, .int .i64 i, .int .i64 10] w (RetBuf w N v (out ++ Lib.itoa i)) := by
  have hcall : Calls Tryz.prog 78 #[v, .int .i64 i, .int .i64 10] w (RetBuf w N v (out ++ Lib.itoa i)) := by
    rcases Int.lt_or_le i 0 with h | h
    · obtain ⟨n, hn⟩ : ∃ n : Nat, i = -(n : Int) := ⟨i.natAbs, by omega⟩
      subst hn
      exact appendInt_neg (by omega) (by omega) hown hN hlim htab hrow
    · obtain ⟨n, rfl⟩ := Int.eq_ofNat_of_zero_le h
      exact appendInt_nonneg (by omega) hown hN hlim htab
  have hH := Lib.hid hcall
  clear hcall hown htab
  go_enter Tryz.func71, Tryz.ntmps71
  go_wp2_with (go_at_call 78; refine hH.out.mono ?_; rintro e w2 ⟨v2, rfl, hb2⟩; have hb2H := Lib.hid hb2; clear hb2)
  go_ret
  exact ⟨v2, rfl, hb2H.out⟩

end Go.Proofs.YtokmkkkanphihaaGreatRDoor
