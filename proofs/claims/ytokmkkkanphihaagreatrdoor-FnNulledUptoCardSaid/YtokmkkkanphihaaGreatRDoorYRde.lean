/- The reference's reader: the parts of an object (written by genRdO.py). -/
import Derived.Test.YtokmkkkanphihaaGreatRDoorYRdd
import Derived.Laws.ResultCell
namespace Go.Proofs.YtokmkkkanphihaaGreatRDoor
open Go.RowKit Go.Sort

theorem info_str : (Tryz.prog.info? 9).map (fun i => (i.zero, i.size, i.bytes)) = some (some (.string ⟨#[]⟩), 1, 16) := by kernel_rfl
theorem str_one (k : ByteArray) : ∀ u ∈ [Value.string k], u.oneCell' = true := by
  intro u hu
  simp at hu
  subst hu
  rfl

theorem bytes_self (k : ByteArray) : (⟨k.data.toList.toArray⟩ : ByteArray) = k := by
  obtain ⟨d⟩ := k
  simp

set_option maxHeartbeats 12800000 in
set_option maxRecDepth 100000 in
theorem parts_obj {w0 : World} {rb nb p d : Nat} {T : ByteArray} {x : Int} {l : List Val} {ks : List ByteArray} {Y : List UInt8} (h : Rdr w0 rb T p) (hne : nb ≠ rb) (hkl : ks.length = l.length)
    (hb : w0.heap[nb]? = some (.cells #[.int .i64 7, .string ⟨#[]⟩, .slice none 0 0, .slice none 0 0, .int .i64 x, .int .i64 0] 48 (0, 0)))
    (ha : At T p (membT l ks true ++ 125 :: Y)) (hT : T.size ≤ lim) (hd : 0 < d) (hd12 : d ≤ 12) (hlb : l.length ≤ lim) (hl : l ≠ [])
    (hval : ∀ j (hj : j < l.length) q Y', At T q (valT l[j] ++ Y') → Stop Y' → Reads rb T ((d : Int) - 1) l[j] q) :
    Calls Tryz.prog 63 #[.pointer (some ⟨rb, 0, none⟩), .pointer (some ⟨nb, 0, none⟩), .int .u8 125, .int .i64 d] w0 fun e w' => e = .returned (.tuple #[]) ∧ POut w0 rb nb T (p + (membT l ks true).length + 1) 7 x l ks w' := by
  obtain ⟨c0, c1, c2, f1, f2⟩ := h.cells
  obtain ⟨i0, hi, hz0, hz1, hz2⟩ := info_parts info_node
  obtain ⟨j0, hjs, hy0, hy1, hy2⟩ := info_parts info_str
  have hT' : T.size ≤ 1099511627776 := hT
  have hlb' : l.length ≤ 1099511627776 := hlb
  have hpos : 0 < l.length := List.length_pos_iff.2 hl
  have hmemb : ∀ j (hj : j < l.length) f, membT (l.drop j) (ks.drop j) f = (if f then [] else [44]) ++ (quoteT (ks[j]'(by rw [hkl]; exact hj)) ++ ((58 : UInt8) :: (valT l[j] ++ membT (l.drop (j + 1)) (ks.drop (j + 1)) false))) := fun j hj f => by
    rw [List.drop_eq_getElem_cons hj, List.drop_eq_getElem_cons (show j < ks.length by rw [hkl]; exact hj), membT]
    simp only [List.headD_cons, List.tail_cons, List.append_assoc, List.cons_append, List.nil_append]
  have ha0 : At T p (quoteT (ks[0]'(by rw [hkl]; exact hpos)) ++ ((58 : UInt8) :: (valT l[0] ++ (membT (l.drop 1) (ks.drop 1) false ++ 125 :: Y)))) := by
    have h1 := hmemb 0 hpos true
    simp only [List.drop_zero, if_true, List.nil_append, Nat.zero_add] at h1
    rw [h1] at ha
    simpa using ha
  have hnext : ∀ j (hj : j + 1 < l.length), membT (l.drop (j + 1)) (ks.drop (j + 1)) false = 44 :: (quoteT (ks[j + 1]'(by rw [hkl]; exact hj)) ++ ((58 : UInt8) :: (valT l[j + 1] ++ membT (l.drop (j + 2)) (ks.drop (j + 2)) false))) := fun j hj => by
    rw [hmemb (j + 1) hj false]
    rfl
  have hend : p + (membT l ks true).length + 1 + Y.length = T.size := by have := ha.len; simp at this; omega
  have hstop : ∀ j, Stop (membT (l.drop (j + 1)) (ks.drop (j + 1)) false ++ 125 :: Y) := fun j => by
    by_cases hj : j + 1 < l.length
    · rw [hnext j hj]; exact Stop_cons (.inl rfl)
    · rw [List.drop_eq_nil_of_le (by omega), membT]; exact Stop_cons (.inr (.inr rfl))
  have hq34 : ∀ (k : ByteArray) (Z : List UInt8), quoteT k ++ Z = 34 :: (esc k.data.toList ++ 34 :: Z) := fun k Z => by simp [quoteT]
  have hbl0 : Calls Tryz.prog 37 #[.pointer (some ⟨rb, 0, none⟩)] w0 fun e w' => e = .returned (.tuple #[]) ∧ ∃ n, w' = w0.drewN n := by
    rw [hq34] at ha0
    exact blanks_none h ha0 hT (NoB_cons (by decide))
  have htk0 : ∀ n, Calls Tryz.prog 74 #[.pointer (some ⟨rb, 0, none⟩), .int .u8 125] (w0.drewN n) fun e w' => e = .returned (.bool false) ∧ ∃ m, w' = (w0.drewN n).drewN m := fun n => by
    rw [hq34] at ha0
    exact take_no (c := 125) rfl (by exact h) ha0 hT (by decide)
  have hstart := Lib.hid (Mid.start (x := x) (kd := 7) h hb hne)
  have hH := Lib.hid h
  have hbl0H := Lib.hid hbl0
  have htk0H := Lib.hid htk0
  have ha0H := Lib.hid ha0
  have hnextH := Lib.hid hnext
  have hendH := Lib.hid hend
  have hstopH := Lib.hid hstop
  have hvalH := Lib.hid hval
  have hTH := Lib.hid hT
  have hq34H := Lib.hid hq34
  clear h hb hne ha hbl0 htk0 ha0 hnext hend hstop hval hl hT hlb hmemb hq34
  go_enter Tryz.func63, Tryz.ntmps63
  go_wp2_with (first
    | (go_at_call 37; refine hbl0H.out.mono ?_; rintro e w1 ⟨rfl, n1, rfl⟩)
    | (go_at_call 74; refine (htk0H.out n1).mono ?_; rintro e w2 ⟨rfl, n2, rfl⟩))
  go_loopg [8] (l.length) (fun k mo wr => ∃ j q lv kv xs S, j ≤ l.length ∧ k = l.length - j ∧ ((mo = .bool true ∧ ∃ hj : j < l.length, Hid (At T q (quoteT (ks[j]'(by rw [hkl]; exact hj)) ++ ((58 : UInt8) :: (valT l[j] ++ (membT (l.drop (j + 1)) (ks.drop (j + 1)) false ++ 125 :: Y)))))) ∨ (mo = .bool false ∧ j = l.length ∧ Hid (At T q (125 :: Y)))) ∧
    Hid (Mid w0 wr rb nb T q 7 x lv lv kv (l.take j) (ks.take j) j xs [] [] S))
  case atStart => exact ⟨0, p, _, _, _, _, Nat.zero_le _, rfl, .inl ⟨rfl, hpos, ha0H⟩, Lib.hid (by have := (hstart.out.drewN n1).drewN n2; rw [World.drewN_drewN] at this; exact this)⟩
  case round =>
    obtain ⟨j, q, lv, kv, xs, S, hjl, hk, hmo, hM⟩ := hrel
    obtain ⟨d0, d1, d2, g1, g2⟩ := hM.out.rdr.cells
    rcases hmo with ⟨rfl, hj, hat⟩ | ⟨rfl, hje, hat⟩
    · obtain ⟨key, hkey⟩ : ∃ key, ks[j]'(by rw [hkl]; exact hj) = key := ⟨_, rfl⟩
      have hat0 := hat.out
      rw [hkey] at hat0
      -- behind the key
      have hcol : At T (q + (quoteT key).length) ((58 : UInt8) :: (valT l[j] ++ (membT (l.drop (j + 1)) (ks.drop (j + 1)) false ++ 125 :: Y))) := hat0.skip
      have hqt : ∀ W, Rdr W rb T q → Calls Tryz.prog 62 #[.pointer (some ⟨rb, 0, none⟩)] W fun e w' => e = .returned (.string key) ∧ Went W w' rb T (q + (quoteT key).length) := fun W hW => by
        have h1 := quoted_any (l := key.data.toList) hW (by rw [hq34H.out] at hat0; exact hat0) hTH.out
        rw [bytes_self] at h1
        have e : q + (esc key.data.toList).length + 2 = q + (quoteT key).length := by simp [quoteT]; omega
        rw [e] at h1
        exact h1
      have hhead : Hid (NoB (quoteT key ++ ((58 : UInt8) :: (valT l[j] ++ (membT (l.drop (j + 1)) (ks.drop (j + 1)) false ++ 125 :: Y))))) := Lib.hid (by rw [hq34H.out]; exact NoB_cons (by decide))
      obtain ⟨qc, hqc⟩ : ∃ qc, qc = q + (quoteT key).length := ⟨_, rfl⟩
      rw [← hqc] at hcol hqt
      have hatv := hcol.tail
      have hv2 : ∀ W, Rdr W rb T (qc + 1) → Calls Tryz.prog 36 #[.pointer (some ⟨rb, 0, none⟩), .int .i64 ((d : Int) - 1)] W (VOut W rb T (qc + 1 + (valT l[j]).length) l[j]) := hvalH.out j hj (qc + 1) _ hatv (hstopH.out j)
      have hat2 : At T (qc + 1 + (valT l[j]).length) (membT (l.drop (j + 1)) (ks.drop (j + 1)) false ++ 125 :: Y) := hatv.skip
      obtain ⟨q2, hq2⟩ : ∃ q2, q2 = qc + 1 + (valT l[j]).length := ⟨_, rfl⟩
      rw [← hq2] at hv2 hat2
      have htake : l.take (j + 1) = l.take j ++ [l[j]] := List.take_succ_eq_append_getElem hj
      have hktake : ks.take (j + 1) = ks.take j ++ [key] := by rw [← hkey]; exact List.take_succ_eq_append_getElem (by rw [hkl]; exact hj)
      obtain ⟨z, hz⟩ : ∃ z, l[j] = z := ⟨_, rfl⟩
      have hcolH : Hid (At T qc ((58 : UInt8) :: (valT z ++ (membT (l.drop (j + 1)) (ks.drop (j + 1)) false ++ 125 :: Y)))) := Lib.hid (by rw [← hz]; exact hcol)
      rw [hz] at hv2 htake
      obtain ⟨zk, zi, zr, zt, zl, zks⟩ := z
      obtain ⟨nk, hnk⟩ : ∃ nk, nodeK zk = nk := ⟨_, rfl⟩
      obtain ⟨nt, hnt⟩ : ∃ nt, nodeT zk zi zr zt = nt := ⟨_, rfl⟩
      obtain ⟨z, hzz⟩ : ∃ z, Val.mk zk zi zr zt zl zks = z := ⟨_, rfl⟩
      have hagg : ∀ ls kz a b, (aggN z ls kz a b).toList = [.int .i64 nk, .string nt, ls, kz, .int .i64 a, .int .i64 b] := fun ls kz a b => by rw [← hzz, ← hnk, ← hnt]; rfl
      have hv3 : ∀ W, Rdr W rb T (qc + 1) → Calls Tryz.prog 36 #[.pointer (some ⟨rb, 0, none⟩), .int .i64 ((d : Int) - 1)] W fun e w' => ∃ ao n c ao2 n2 c2 a b S2, e = .returned (.agg #[.int .i64 nk, .string nt, .slice ao n c, .slice ao2 n2 c2, .int .i64 a, .int .i64 b]) ∧ NSubs S2 w' z (.slice ao n c) (.slice ao2 n2 c2) ∧ (∀ k, S2 k → W.heap.size ≤ k ∧ k < w'.heap.size) ∧ Went W w' rb T q2 := fun W hW => (hv2 W hW).mono fun e w' hh => by
        obtain ⟨ls, kz, a, b, S2, he, hN, hS, hw⟩ := hh
        obtain ⟨⟨ao, c, rfl, h1⟩, ⟨ao2, c2, rfl, h2⟩⟩ := hN
        refine ⟨ao, _, c, ao2, _, c2, a, b, S2, by rw [he, ← hnk, ← hnt]; rfl, by rw [← hzz]; exact ⟨⟨ao, c, rfl, h1⟩, ⟨ao2, c2, rfl, h2⟩⟩, hS, hw⟩
      have hljn : (l.take j).length = j := by rw [List.length_take]; omega
      have hkjn : (ks.take j).length = j := by rw [List.length_take]; omega
      have hv3H := Lib.hid hv3
      have hat2H := Lib.hid hat2
      have haggH := Lib.hid hagg
      have htakeH := Lib.hid (htake.trans (by rw [hzz]))
      have hktakeH := Lib.hid hktake
      have hljH := Lib.hid hljn
      have hkjH := Lib.hid hkjn
      have hqtH := Lib.hid hqt
      have hatH := Lib.hid hat0
      have hsz0 := hM.out.kp.size
      have k3 : wr.cell? ⟨nb, 3, none⟩ = some kv := cells_of hM.out.blk 3
      have y3 : wr.frozen? ⟨nb, 3, none⟩ = false := free_of hM.out.blk 3
      obtain ⟨lo, lc, hlv⟩ : ∃ lo lc, lv = .slice lo j lc := by
        rcases hM.out.rows.2 with ⟨e, e2⟩ | ⟨g, cap, cu, e, _⟩
        · exact ⟨none, 0, by rw [e, e2]⟩
        · exact ⟨_, _, e⟩
      obtain ⟨ko, kc, hkv⟩ : ∃ ko kc, kv = .slice ko j kc := by
        have hks := hM.out.keys
        rw [hkjn] at hks
        rcases hks.2 with ⟨e, e2⟩ | ⟨g, cap, cu, e, _⟩
        · exact ⟨none, 0, by rw [e, e2]⟩
        · exact ⟨_, _, e⟩
      have hjlt : (j : Int) < (j : Int) + 1 := by omega
      clear hv2 hv3 hat2 hagg hz hzz hnk hnt htake hq2 hljn hat hat0 hcol hqt hktake hkjn hatv hqc hkey
      have hne1 := Lib.hid zero_one
      have hwrH : Hid (IntKind.i64.wrap ((d : Int) - 1) = (d : Int) - 1) := Lib.hid (by rw [IntKind.wrap_i64]; omega)
      subst hlv
      subst hkv
      go_wp2_with (go_at_call 37; refine (blanks_none hM.out.rdr hatH.out hTH.out hhead.out).mono ?_; rintro e w1 ⟨rfl, nn, rfl⟩)
      have hM := Lib.hid ((hM.out.drewN nn).drew)
      go_region_law (first
        | (refine step_append_lies _ rfl (.tmp 30) (.tmp 33) 24 rfl w0.heap.size 9 j0 (.string ⟨#[]⟩) 1 16 Tryz.underlying24 hjs hy0 hy1 hy2 rfl (by omega) (.slice ko j kc) j ((ks.take j).map Value.string) (by simp [Act.eval]) (by exact (own_len hkjH.out (hM.out.alloc _).keys)) ⟨w3.heap.size, 0, none⟩ 1 1 [.string key] (by simp [Act.eval]) rfl (World.news_of_block (by exact heap_alloc_new _ _)) (str_one key) (by omega) (by unfold maxLen; omega) (by omega) (by have := hM.out.kp.size; simp at this ⊢; omega) _ rfl ?_; intro gk capk w4 hown4 hgrow4 hat4 hlt4; have hM := Lib.hid (hM.out.alloc (.cells #[.string key] 9)); have hKey := Lib.hid (Mid.key hkjH.out hM.out hown4 hgrow4 (hat4.imp id fun h => Nat.le_of_eq h.symm)); have k3 : w4.cell? ⟨nb, 3, none⟩ = some (.slice ko j kc) := (by rw [World.cell?_of_block (hgrow4.block nb (hM.out.nbLt) (hM.out.nbKey))]; exact cells_of hM.out.blk 3); have y3 : w4.frozen? ⟨nb, 3, none⟩ = false := (by rw [World.frozen?_of_block (hgrow4.block nb (hM.out.nbLt) (hM.out.nbKey))]; exact free_of hM.out.blk 3); clear hown4 hgrow4 hat4 hlt4)
        | (go_simp; go_at_call 62; refine (hqtH.out _ (by exact hM.out.rdr)).mono ?_; rintro e w3 ⟨rfl, hw3⟩; have hM := Lib.hid (hM.out.went hw3); have k3 := cells_of hM.out.blk 3; have y3 := free_of hM.out.blk 3; have k3a := fun o => cells_alloc hM.out.blk o 3; simp only [List.getElem?_toArray, List.getElem?_cons_zero, List.getElem?_cons_succ] at k3 k3a))
      · have hM := Lib.hid hKey.out
        rw [← hktakeH.out] at hM
        generalize w4.setCell ⟨nb, 3, none⟩ (.slice (some ⟨gk, 0, none⟩) (j + 1) capk) = W4 at hM ⊢
        clear hKey k3 y3
        have hM := Lib.hid hM
        go_wp2_with (first
          | (go_at_call 37; refine (blanks_none hM.out.rdr hcolH.out hTH.out (NoB_cons (by decide))).mono ?_; rintro e w7 ⟨rfl, n7, rfl⟩)
          | (go_at_call 74; refine (take_yes (c := 58) rfl (by exact hM.out.rdr) hcolH.out hTH.out).mono ?_; rintro e w9 ⟨rfl, hw9⟩; have hM := Lib.hid ((hM.out.drewN n7).went hw9); clear hw9))
        have k2 : w9.cell? ⟨nb, 2, none⟩ = some (.slice lo j lc) := cells_of hM.out.blk 2
        have y2 : w9.frozen? ⟨nb, 2, none⟩ = false := free_of hM.out.blk 2
        have k2a := fun o => cells_alloc hM.out.blk o 2
        simp only [List.getElem?_toArray, List.getElem?_cons_zero, List.getElem?_cons_succ] at k2a
        have hM := Lib.hid hM.out.drew
        have hrbw : rb < w9.heap.size := hM.out.rdr.lt
        go_region_law (first
          | (refine step_append_lies _ rfl (.tmp 48) (.tmp 54) 46 rfl w0.heap.size 48 i0 (.agg #[.int .i64 0, .string ⟨#[]⟩, .slice none 0 0, .slice none 0 0, .int .i64 0, .int .i64 0]) 6 88 Tryz.underlying46 hi hz0 hz1 hz2 rfl (by omega) (.slice lo j lc) j (xs ++ []) (by simp [Act.eval, Act.put]) (by exact (hM.out.alloc _).rows) ⟨w9.heap.size, 0, none⟩ 1 1 zeroN (by simp [Act.eval, Act.put]) rfl (World.news_of_block (by exact heap_alloc_new _ _)) hne1.out (by omega) (by unfold maxLen; omega) (by omega) (by have := hM.out.kp.size; simp at this ⊢; omega) _ rfl ?_; intro g cap w5 hown5 hgrow5 hat5 hlt5; have hM := Lib.hid (Mid.grow (hM.out.alloc _) hown5 hgrow5 (hat5.imp id fun h => Nat.le_of_eq h.symm)); clear hown5 hgrow5 hat5 hlt5; have k2 := cells_of hM.out.blk 2; have y2 := free_of hM.out.blk 2; have k2a := fun o => cells_alloc hM.out.blk o 2; simp only [List.getElem?_toArray, List.getElem?_cons_zero, List.getElem?_cons_succ] at k2 k2a; (try (obtain ⟨⟨t0, t1, t2, t3, t4, t5⟩, tf⟩ := own_tail (o := j * 6) (by have := hM.out.nodes.1; rw [hljH.out] at this; omega) hM.out.rows; have tf0 := tf (j * 6); have tf1 := tf (j * 6 + 1); have tf2 := tf (j * 6 + 2); have tf3 := tf (j * 6 + 3); have tf4 := tf (j * 6 + 4); have tf5 := tf (j * 6 + 5); clear tf; have hgnb : ¬ g = nb := (by have := (hM.out.rows.lt g rfl).1; have := hM.out.low.2.1; omega); have hnbg : ¬ nb = g := (fun e => hgnb e.symm))))
          | (refine step_append_lies _ rfl (.tmp 48) (.tmp 54) 46 rfl w0.heap.size 48 i0 (.agg #[.int .i64 0, .string ⟨#[]⟩, .slice none 0 0, .slice none 0 0, .int .i64 0, .int .i64 0]) 6 88 Tryz.underlying46 hi hz0 hz1 hz2 rfl (by omega) (.slice lo j lc) j (xs ++ []) (by simp [Act.eval, Act.put]) (by exact hM.out.rows) ⟨w9.heap.size, 0, none⟩ 1 1 zeroN (by simp [Act.eval, Act.put]) rfl (World.news_of_block (by exact hw6.2.at (by simp) (by show ¬ w9.heap.size = rb; omega) (heap_alloc_new _ _))) hne1.out (by omega) (by unfold maxLen; omega) (by omega) (by have := hM.out.kp.size; simp at this ⊢; omega) _ rfl ?_; intro g cap w5 hown5 hgrow5 hat5 hlt5; have hM := Lib.hid (Mid.grow hM.out hown5 hgrow5 (hat5.imp id fun h => Nat.le_of_eq h.symm)); clear hown5 hgrow5 hat5 hlt5; have k2 := cells_of hM.out.blk 2; have y2 := free_of hM.out.blk 2; have k2a := fun o => cells_alloc hM.out.blk o 2; simp only [List.getElem?_toArray, List.getElem?_cons_zero, List.getElem?_cons_succ] at k2 k2a; (try (obtain ⟨⟨t0, t1, t2, t3, t4, t5⟩, tf⟩ := own_tail (o := j * 6) (by have := hM.out.nodes.1; rw [hljH.out] at this; omega) hM.out.rows; have tf0 := tf (j * 6); have tf1 := tf (j * 6 + 1); have tf2 := tf (j * 6 + 2); have tf3 := tf (j * 6 + 3); have tf4 := tf (j * 6 + 4); have tf5 := tf (j * 6 + 5); clear tf; have hgnb : ¬ g = nb := (by have := (hM.out.rows.lt g rfl).1; have := hM.out.low.2.1; omega); have hnbg : ¬ nb = g := (fun e => hgnb e.symm))))
          | (refine step_append_lies _ rfl (.tmp 48) (.tmp 54) 46 rfl w0.heap.size 48 i0 (.agg #[.int .i64 0, .string ⟨#[]⟩, .slice none 0 0, .slice none 0 0, .int .i64 0, .int .i64 0]) 6 88 Tryz.underlying46 hi hz0 hz1 hz2 rfl (by omega) (.slice lo j lc) j (xs ++ []) (by simp [Act.eval, Act.put]) (by exact (hM.out.alloc _).rows) ⟨w6.heap.size, 0, none⟩ 1 1 zeroN (by simp [Act.eval, Act.put]) rfl (World.news_of_block (by exact heap_alloc_new _ _)) hne1.out (by omega) (by unfold maxLen; omega) (by omega) (by have := hM.out.kp.size; simp at this ⊢; omega) _ rfl ?_; intro g cap w5 hown5 hgrow5 hat5 hlt5; have hM := Lib.hid (Mid.grow (hM.out.alloc _) hown5 hgrow5 (hat5.imp id fun h => Nat.le_of_eq h.symm)); clear hown5 hgrow5 hat5 hlt5; have k2 := cells_of hM.out.blk 2; have y2 := free_of hM.out.blk 2; have k2a := fun o => cells_alloc hM.out.blk o 2; simp only [List.getElem?_toArray, List.getElem?_cons_zero, List.getElem?_cons_succ] at k2 k2a; (try (obtain ⟨⟨t0, t1, t2, t3, t4, t5⟩, tf⟩ := own_tail (o := j * 6) (by have := hM.out.nodes.1; rw [hljH.out] at this; omega) hM.out.rows; have tf0 := tf (j * 6); have tf1 := tf (j * 6 + 1); have tf2 := tf (j * 6 + 2); have tf3 := tf (j * 6 + 3); have tf4 := tf (j * 6 + 4); have tf5 := tf (j * 6 + 5); clear tf; have hgnb : ¬ g = nb := (by have := (hM.out.rows.lt g rfl).1; have := hM.out.low.2.1; omega); have hnbg : ¬ nb = g := (fun e => hgnb e.symm))))
          | (go_simp; go_at_call 36; rw [hwrH.out]; refine (hv3H.out _ (by first | exact hM.out.rdr | exact (hM.out.alloc _).rdr | exact (hM.out.setCur _).rdr)).mono ?_; rintro e w6 ⟨ao, n, c, ao2, n2, c2, a, b, S2, rfl, hN6, hS6, hw6⟩; (first | have hM := Lib.hid (Mid.read hM.out hw6 hN6 hS6) | have hM := Lib.hid (Mid.read (hM.out.alloc _) hw6 hN6 hS6) | have hM := Lib.hid (Mid.read (hM.out.setCur _) hw6 hN6 hS6)); have k2 := cells_of hM.out.blk 2; have y2 := free_of hM.out.blk 2; have k2a := fun o => cells_alloc hM.out.blk o 2; simp only [List.getElem?_toArray, List.getElem?_cons_zero, List.getElem?_cons_succ] at k2 k2a; (try (obtain ⟨⟨t0, t1, t2, t3, t4, t5⟩, tf⟩ := own_tail (o := j * 6) (by have := hM.out.nodes.1; rw [hljH.out] at this; omega) hM.out.rows; have tf0 := tf (j * 6); have tf1 := tf (j * 6 + 1); have tf2 := tf (j * 6 + 2); have tf3 := tf (j * 6 + 3); have tf4 := tf (j * 6 + 4); have tf5 := tf (j * 6 + 5); clear tf; have hgnb : ¬ g = nb := (by have := (hM.out.rows.lt g rfl).1; have := hM.out.low.2.1; omega); have hnbg : ¬ nb = g := (fun e => hgnb e.symm)))))
        · have hF := Mid.close (haggH.out (.slice ao n c) (.slice ao2 n2 c2) a b).symm ((Mid.fill (o := j * 6) (v0 := .int .i64 nk) (v1 := .string nt) (v2 := .slice ao n c) (v3 := .slice ao2 n2 c2) (v4 := .int .i64 a) (v5 := .int .i64 b) hM.out (by rw [hljH.out]; omega) (by omega)).setCur (.slice (some ⟨g, 0, none⟩) (j + 1) cap))
          rw [← htakeH.out] at hF
          generalize (((((((w5.setCell ⟨g, j * 6, none⟩ (.int .i64 nk)).setCell ⟨g, j * 6 + 1, none⟩ (.string nt)).setCell ⟨g, j * 6 + 2, none⟩ (.slice ao n c)).setCell ⟨g, j * 6 + 3, none⟩ (.slice ao2 n2 c2)).setCell ⟨g, j * 6 + 4, none⟩ (.int .i64 a)).setCell ⟨g, j * 6 + 5, none⟩ (.int .i64 b)).setCell ⟨nb, 2, none⟩ (.slice (some ⟨g, 0, none⟩) (j + 1) cap)) = W at hF ⊢
          have hFH := Lib.hid hF
          have hRW := Lib.hid hF.rdr
          clear hF hM t0 t1 t2 t3 t4 t5 tf0 tf1 tf2 tf3 tf4 tf5 k2 k2a y2 hN6 hS6 hw6
          obtain ⟨d0, d1, d2, g1, g2⟩ := hRW.out.cells
          by_cases hnx : j + 1 < l.length
          · have hat3 : Hid (At T q2 (44 :: (quoteT (ks[j + 1]'(by rw [hkl]; exact hnx)) ++ ((58 : UInt8) :: (valT l[j + 1] ++ (membT (l.drop (j + 2)) (ks.drop (j + 2)) false ++ 125 :: Y)))))) := Lib.hid (by
              have h5 := hat2H.out
              rw [hnextH.out j hnx, List.cons_append, List.append_assoc, List.cons_append, List.append_assoc] at h5
              exact h5)
            go_wp2_with (first
              | (go_at_call 37; refine (blanks_none hRW.out hat3.out hTH.out (NoB_cons (by decide))).mono ?_; rintro e w7 ⟨rfl, n7, rfl⟩)
              | (go_at_call 74; refine (take_yes (c := 44) rfl (by exact hRW.out) hat3.out hTH.out).mono ?_; rintro e w8 ⟨rfl, hw8⟩; have hM8 := Lib.hid ((hFH.out.drewN n7).went hw8); clear hw8))
            go_roundg (l.length - (j + 1))
            case measure => omega
            case rel => exact ⟨j + 1, q2 + 1, _, _, _, _, by omega, rfl, .inl ⟨rfl, hnx, Lib.hid hat3.out.tail⟩, hM8⟩
          · have hat3 : Hid (At T q2 (125 :: Y)) := Lib.hid (by
              have h5 := hat2H.out
              rw [List.drop_eq_nil_of_le (by omega), membT] at h5
              exact h5)
            go_wp2_with (first
              | (go_at_call 37; refine (blanks_none hRW.out hat3.out hTH.out (NoB_cons (by decide))).mono ?_; rintro e w7 ⟨rfl, n7, rfl⟩)
              | (go_at_call 74; refine (take_no (c := 44) (d := 125) rfl (by exact hRW.out) hat3.out hTH.out (by decide)).mono ?_; rintro e w8 ⟨rfl, n8, rfl⟩; have hM8 := hFH.out.drewN n7; have hM8 := hM8.drewN n8; rw [World.drewN_drewN] at hM8; have hM8 := Lib.hid hM8))
            go_roundg (l.length - (j + 1))
            case measure => omega
            case rel => exact ⟨j + 1, q2, _, _, _, _, by omega, rfl, .inr ⟨rfl, by omega, hat3⟩, hM8⟩
        · have hF := Mid.close (haggH.out (.slice ao n c) (.slice ao2 n2 c2) a b).symm (Mid.fill (o := j * 6) (v0 := .int .i64 nk) (v1 := .string nt) (v2 := .slice ao n c) (v3 := .slice ao2 n2 c2) (v4 := .int .i64 a) (v5 := .int .i64 b) (hM.out.setCur (.slice (some ⟨g, 0, none⟩) (j + 1) cap)) (by rw [hljH.out]; omega) (by omega))
          rw [← htakeH.out] at hF
          generalize (((((((w5.setCell ⟨nb, 2, none⟩ (.slice (some ⟨g, 0, none⟩) (j + 1) cap)).setCell ⟨g, j * 6, none⟩ (.int .i64 nk)).setCell ⟨g, j * 6 + 1, none⟩ (.string nt)).setCell ⟨g, j * 6 + 2, none⟩ (.slice ao n c)).setCell ⟨g, j * 6 + 3, none⟩ (.slice ao2 n2 c2)).setCell ⟨g, j * 6 + 4, none⟩ (.int .i64 a)).setCell ⟨g, j * 6 + 5, none⟩ (.int .i64 b)) = W at hF ⊢
          have hFH := Lib.hid hF
          have hRW := Lib.hid hF.rdr
          clear hF hM t0 t1 t2 t3 t4 t5 tf0 tf1 tf2 tf3 tf4 tf5 k2 k2a y2 hN6 hS6 hw6
          obtain ⟨d0, d1, d2, g1, g2⟩ := hRW.out.cells
          by_cases hnx : j + 1 < l.length
          · have hat3 : Hid (At T q2 (44 :: (quoteT (ks[j + 1]'(by rw [hkl]; exact hnx)) ++ ((58 : UInt8) :: (valT l[j + 1] ++ (membT (l.drop (j + 2)) (ks.drop (j + 2)) false ++ 125 :: Y)))))) := Lib.hid (by
              have h5 := hat2H.out
              rw [hnextH.out j hnx, List.cons_append, List.append_assoc, List.cons_append, List.append_assoc] at h5
              exact h5)
            go_wp2_with (first
              | (go_at_call 37; refine (blanks_none hRW.out hat3.out hTH.out (NoB_cons (by decide))).mono ?_; rintro e w7 ⟨rfl, n7, rfl⟩)
              | (go_at_call 74; refine (take_yes (c := 44) rfl (by exact hRW.out) hat3.out hTH.out).mono ?_; rintro e w8 ⟨rfl, hw8⟩; have hM8 := Lib.hid ((hFH.out.drewN n7).went hw8); clear hw8))
            go_roundg (l.length - (j + 1))
            case measure => omega
            case rel => exact ⟨j + 1, q2 + 1, _, _, _, _, by omega, rfl, .inl ⟨rfl, hnx, Lib.hid hat3.out.tail⟩, hM8⟩
          · have hat3 : Hid (At T q2 (125 :: Y)) := Lib.hid (by
              have h5 := hat2H.out
              rw [List.drop_eq_nil_of_le (by omega), membT] at h5
              exact h5)
            go_wp2_with (first
              | (go_at_call 37; refine (blanks_none hRW.out hat3.out hTH.out (NoB_cons (by decide))).mono ?_; rintro e w7 ⟨rfl, n7, rfl⟩)
              | (go_at_call 74; refine (take_no (c := 44) (d := 125) rfl (by exact hRW.out) hat3.out hTH.out (by decide)).mono ?_; rintro e w8 ⟨rfl, n8, rfl⟩; have hM8 := hFH.out.drewN n7; have hM8 := hM8.drewN n8; rw [World.drewN_drewN] at hM8; have hM8 := Lib.hid hM8))
            go_roundg (l.length - (j + 1))
            case measure => omega
            case rel => exact ⟨j + 1, q2, _, _, _, _, by omega, rfl, .inr ⟨rfl, by omega, hat3⟩, hM8⟩
        · have hF := Mid.close (haggH.out (.slice ao n c) (.slice ao2 n2 c2) a b).symm ((Mid.fill (o := j * 6) (v0 := .int .i64 nk) (v1 := .string nt) (v2 := .slice ao n c) (v3 := .slice ao2 n2 c2) (v4 := .int .i64 a) (v5 := .int .i64 b) hM.out (by rw [hljH.out]; omega) (by omega)).setCur (.slice (some ⟨g, 0, none⟩) (j + 1) cap))
          rw [← htakeH.out] at hF
          generalize (((((((w5.setCell ⟨g, j * 6, none⟩ (.int .i64 nk)).setCell ⟨g, j * 6 + 1, none⟩ (.string nt)).setCell ⟨g, j * 6 + 2, none⟩ (.slice ao n c)).setCell ⟨g, j * 6 + 3, none⟩ (.slice ao2 n2 c2)).setCell ⟨g, j * 6 + 4, none⟩ (.int .i64 a)).setCell ⟨g, j * 6 + 5, none⟩ (.int .i64 b)).setCell ⟨nb, 2, none⟩ (.slice (some ⟨g, 0, none⟩) (j + 1) cap)) = W at hF ⊢
          have hFH := Lib.hid hF
          have hRW := Lib.hid hF.rdr
          clear hF hM t0 t1 t2 t3 t4 t5 tf0 tf1 tf2 tf3 tf4 tf5 k2 k2a y2 hN6 hS6 hw6
          obtain ⟨d0, d1, d2, g1, g2⟩ := hRW.out.cells
          by_cases hnx : j + 1 < l.length
          · have hat3 : Hid (At T q2 (44 :: (quoteT (ks[j + 1]'(by rw [hkl]; exact hnx)) ++ ((58 : UInt8) :: (valT l[j + 1] ++ (membT (l.drop (j + 2)) (ks.drop (j + 2)) false ++ 125 :: Y)))))) := Lib.hid (by
              have h5 := hat2H.out
              rw [hnextH.out j hnx, List.cons_append, List.append_assoc, List.cons_append, List.append_assoc] at h5
              exact h5)
            go_wp2_with (first
              | (go_at_call 37; refine (blanks_none hRW.out hat3.out hTH.out (NoB_cons (by decide))).mono ?_; rintro e w7 ⟨rfl, n7, rfl⟩)
              | (go_at_call 74; refine (take_yes (c := 44) rfl (by exact hRW.out) hat3.out hTH.out).mono ?_; rintro e w8 ⟨rfl, hw8⟩; have hM8 := Lib.hid ((hFH.out.drewN n7).went hw8); clear hw8))
            go_roundg (l.length - (j + 1))
            case measure => omega
            case rel => exact ⟨j + 1, q2 + 1, _, _, _, _, by omega, rfl, .inl ⟨rfl, hnx, Lib.hid hat3.out.tail⟩, hM8⟩
          · have hat3 : Hid (At T q2 (125 :: Y)) := Lib.hid (by
              have h5 := hat2H.out
              rw [List.drop_eq_nil_of_le (by omega), membT] at h5
              exact h5)
            go_wp2_with (first
              | (go_at_call 37; refine (blanks_none hRW.out hat3.out hTH.out (NoB_cons (by decide))).mono ?_; rintro e w7 ⟨rfl, n7, rfl⟩)
              | (go_at_call 74; refine (take_no (c := 44) (d := 125) rfl (by exact hRW.out) hat3.out hTH.out (by decide)).mono ?_; rintro e w8 ⟨rfl, n8, rfl⟩; have hM8 := hFH.out.drewN n7; have hM8 := hM8.drewN n8; rw [World.drewN_drewN] at hM8; have hM8 := Lib.hid hM8))
            go_roundg (l.length - (j + 1))
            case measure => omega
            case rel => exact ⟨j + 1, q2, _, _, _, _, by omega, rfl, .inr ⟨rfl, by omega, hat3⟩, hM8⟩
        · have hF := Mid.close (haggH.out (.slice ao n c) (.slice ao2 n2 c2) a b).symm (Mid.fill (o := j * 6) (v0 := .int .i64 nk) (v1 := .string nt) (v2 := .slice ao n c) (v3 := .slice ao2 n2 c2) (v4 := .int .i64 a) (v5 := .int .i64 b) (hM.out.setCur (.slice (some ⟨g, 0, none⟩) (j + 1) cap)) (by rw [hljH.out]; omega) (by omega))
          rw [← htakeH.out] at hF
          generalize (((((((w5.setCell ⟨nb, 2, none⟩ (.slice (some ⟨g, 0, none⟩) (j + 1) cap)).setCell ⟨g, j * 6, none⟩ (.int .i64 nk)).setCell ⟨g, j * 6 + 1, none⟩ (.string nt)).setCell ⟨g, j * 6 + 2, none⟩ (.slice ao n c)).setCell ⟨g, j * 6 + 3, none⟩ (.slice ao2 n2 c2)).setCell ⟨g, j * 6 + 4, none⟩ (.int .i64 a)).setCell ⟨g, j * 6 + 5, none⟩ (.int .i64 b)) = W at hF ⊢
          have hFH := Lib.hid hF
          have hRW := Lib.hid hF.rdr
          clear hF hM t0 t1 t2 t3 t4 t5 tf0 tf1 tf2 tf3 tf4 tf5 k2 k2a y2 hN6 hS6 hw6
          obtain ⟨d0, d1, d2, g1, g2⟩ := hRW.out.cells
          by_cases hnx : j + 1 < l.length
          · have hat3 : Hid (At T q2 (44 :: (quoteT (ks[j + 1]'(by rw [hkl]; exact hnx)) ++ ((58 : UInt8) :: (valT l[j + 1] ++ (membT (l.drop (j + 2)) (ks.drop (j + 2)) false ++ 125 :: Y)))))) := Lib.hid (by
              have h5 := hat2H.out
              rw [hnextH.out j hnx, List.cons_append, List.append_assoc, List.cons_append, List.append_assoc] at h5
              exact h5)
            go_wp2_with (first
              | (go_at_call 37; refine (blanks_none hRW.out hat3.out hTH.out (NoB_cons (by decide))).mono ?_; rintro e w7 ⟨rfl, n7, rfl⟩)
              | (go_at_call 74; refine (take_yes (c := 44) rfl (by exact hRW.out) hat3.out hTH.out).mono ?_; rintro e w8 ⟨rfl, hw8⟩; have hM8 := Lib.hid ((hFH.out.drewN n7).went hw8); clear hw8))
            go_roundg (l.length - (j + 1))
            case measure => omega
            case rel => exact ⟨j + 1, q2 + 1, _, _, _, _, by omega, rfl, .inl ⟨rfl, hnx, Lib.hid hat3.out.tail⟩, hM8⟩
          · have hat3 : Hid (At T q2 (125 :: Y)) := Lib.hid (by
              have h5 := hat2H.out
              rw [List.drop_eq_nil_of_le (by omega), membT] at h5
              exact h5)
            go_wp2_with (first
              | (go_at_call 37; refine (blanks_none hRW.out hat3.out hTH.out (NoB_cons (by decide))).mono ?_; rintro e w7 ⟨rfl, n7, rfl⟩)
              | (go_at_call 74; refine (take_no (c := 44) (d := 125) rfl (by exact hRW.out) hat3.out hTH.out (by decide)).mono ?_; rintro e w8 ⟨rfl, n8, rfl⟩; have hM8 := hFH.out.drewN n7; have hM8 := hM8.drewN n8; rw [World.drewN_drewN] at hM8; have hM8 := Lib.hid hM8))
            go_roundg (l.length - (j + 1))
            case measure => omega
            case rel => exact ⟨j + 1, q2, _, _, _, _, by omega, rfl, .inr ⟨rfl, by omega, hat3⟩, hM8⟩
        · have hF := Mid.close (haggH.out (.slice ao n c) (.slice ao2 n2 c2) a b).symm ((Mid.fill (o := j * 6) (v0 := .int .i64 nk) (v1 := .string nt) (v2 := .slice ao n c) (v3 := .slice ao2 n2 c2) (v4 := .int .i64 a) (v5 := .int .i64 b) hM.out (by rw [hljH.out]; omega) (by omega)).setCur (.slice (some ⟨g, 0, none⟩) (j + 1) cap))
          rw [← htakeH.out] at hF
          generalize (((((((w5.setCell ⟨g, j * 6, none⟩ (.int .i64 nk)).setCell ⟨g, j * 6 + 1, none⟩ (.string nt)).setCell ⟨g, j * 6 + 2, none⟩ (.slice ao n c)).setCell ⟨g, j * 6 + 3, none⟩ (.slice ao2 n2 c2)).setCell ⟨g, j * 6 + 4, none⟩ (.int .i64 a)).setCell ⟨g, j * 6 + 5, none⟩ (.int .i64 b)).setCell ⟨nb, 2, none⟩ (.slice (some ⟨g, 0, none⟩) (j + 1) cap)) = W at hF ⊢
          have hFH := Lib.hid hF
          have hRW := Lib.hid hF.rdr
          clear hF hM t0 t1 t2 t3 t4 t5 tf0 tf1 tf2 tf3 tf4 tf5 k2 k2a y2 hN6 hS6 hw6
          obtain ⟨d0, d1, d2, g1, g2⟩ := hRW.out.cells
          by_cases hnx : j + 1 < l.length
          · have hat3 : Hid (At T q2 (44 :: (quoteT (ks[j + 1]'(by rw [hkl]; exact hnx)) ++ ((58 : UInt8) :: (valT l[j + 1] ++ (membT (l.drop (j + 2)) (ks.drop (j + 2)) false ++ 125 :: Y)))))) := Lib.hid (by
              have h5 := hat2H.out
              rw [hnextH.out j hnx, List.cons_append, List.append_assoc, List.cons_append, List.append_assoc] at h5
              exact h5)
            go_wp2_with (first
              | (go_at_call 37; refine (blanks_none hRW.out hat3.out hTH.out (NoB_cons (by decide))).mono ?_; rintro e w7 ⟨rfl, n7, rfl⟩)
              | (go_at_call 74; refine (take_yes (c := 44) rfl (by exact hRW.out) hat3.out hTH.out).mono ?_; rintro e w8 ⟨rfl, hw8⟩; have hM8 := Lib.hid ((hFH.out.drewN n7).went hw8); clear hw8))
            go_roundg (l.length - (j + 1))
            case measure => omega
            case rel => exact ⟨j + 1, q2 + 1, _, _, _, _, by omega, rfl, .inl ⟨rfl, hnx, Lib.hid hat3.out.tail⟩, hM8⟩
          · have hat3 : Hid (At T q2 (125 :: Y)) := Lib.hid (by
              have h5 := hat2H.out
              rw [List.drop_eq_nil_of_le (by omega), membT] at h5
              exact h5)
            go_wp2_with (first
              | (go_at_call 37; refine (blanks_none hRW.out hat3.out hTH.out (NoB_cons (by decide))).mono ?_; rintro e w7 ⟨rfl, n7, rfl⟩)
              | (go_at_call 74; refine (take_no (c := 44) (d := 125) rfl (by exact hRW.out) hat3.out hTH.out (by decide)).mono ?_; rintro e w8 ⟨rfl, n8, rfl⟩; have hM8 := hFH.out.drewN n7; have hM8 := hM8.drewN n8; rw [World.drewN_drewN] at hM8; have hM8 := Lib.hid hM8))
            go_roundg (l.length - (j + 1))
            case measure => omega
            case rel => exact ⟨j + 1, q2, _, _, _, _, by omega, rfl, .inr ⟨rfl, by omega, hat3⟩, hM8⟩
        · have hF := Mid.close (haggH.out (.slice ao n c) (.slice ao2 n2 c2) a b).symm (Mid.fill (o := j * 6) (v0 := .int .i64 nk) (v1 := .string nt) (v2 := .slice ao n c) (v3 := .slice ao2 n2 c2) (v4 := .int .i64 a) (v5 := .int .i64 b) (hM.out.setCur (.slice (some ⟨g, 0, none⟩) (j + 1) cap)) (by rw [hljH.out]; omega) (by omega))
          rw [← htakeH.out] at hF
          generalize (((((((w5.setCell ⟨nb, 2, none⟩ (.slice (some ⟨g, 0, none⟩) (j + 1) cap)).setCell ⟨g, j * 6, none⟩ (.int .i64 nk)).setCell ⟨g, j * 6 + 1, none⟩ (.string nt)).setCell ⟨g, j * 6 + 2, none⟩ (.slice ao n c)).setCell ⟨g, j * 6 + 3, none⟩ (.slice ao2 n2 c2)).setCell ⟨g, j * 6 + 4, none⟩ (.int .i64 a)).setCell ⟨g, j * 6 + 5, none⟩ (.int .i64 b)) = W at hF ⊢
          have hFH := Lib.hid hF
          have hRW := Lib.hid hF.rdr
          clear hF hM t0 t1 t2 t3 t4 t5 tf0 tf1 tf2 tf3 tf4 tf5 k2 k2a y2 hN6 hS6 hw6
          obtain ⟨d0, d1, d2, g1, g2⟩ := hRW.out.cells
          by_cases hnx : j + 1 < l.length
          · have hat3 : Hid (At T q2 (44 :: (quoteT (ks[j + 1]'(by rw [hkl]; exact hnx)) ++ ((58 : UInt8) :: (valT l[j + 1] ++ (membT (l.drop (j + 2)) (ks.drop (j + 2)) false ++ 125 :: Y)))))) := Lib.hid (by
              have h5 := hat2H.out
              rw [hnextH.out j hnx, List.cons_append, List.append_assoc, List.cons_append, List.append_assoc] at h5
              exact h5)
            go_wp2_with (first
              | (go_at_call 37; refine (blanks_none hRW.out hat3.out hTH.out (NoB_cons (by decide))).mono ?_; rintro e w7 ⟨rfl, n7, rfl⟩)
              | (go_at_call 74; refine (take_yes (c := 44) rfl (by exact hRW.out) hat3.out hTH.out).mono ?_; rintro e w8 ⟨rfl, hw8⟩; have hM8 := Lib.hid ((hFH.out.drewN n7).went hw8); clear hw8))
            go_roundg (l.length - (j + 1))
            case measure => omega
            case rel => exact ⟨j + 1, q2 + 1, _, _, _, _, by omega, rfl, .inl ⟨rfl, hnx, Lib.hid hat3.out.tail⟩, hM8⟩
          · have hat3 : Hid (At T q2 (125 :: Y)) := Lib.hid (by
              have h5 := hat2H.out
              rw [List.drop_eq_nil_of_le (by omega), membT] at h5
              exact h5)
            go_wp2_with (first
              | (go_at_call 37; refine (blanks_none hRW.out hat3.out hTH.out (NoB_cons (by decide))).mono ?_; rintro e w7 ⟨rfl, n7, rfl⟩)
              | (go_at_call 74; refine (take_no (c := 44) (d := 125) rfl (by exact hRW.out) hat3.out hTH.out (by decide)).mono ?_; rintro e w8 ⟨rfl, n8, rfl⟩; have hM8 := hFH.out.drewN n7; have hM8 := hM8.drewN n8; rw [World.drewN_drewN] at hM8; have hM8 := Lib.hid hM8))
            go_roundg (l.length - (j + 1))
            case measure => omega
            case rel => exact ⟨j + 1, q2, _, _, _, _, by omega, rfl, .inr ⟨rfl, by omega, hat3⟩, hM8⟩
        · have hF := Mid.close (haggH.out (.slice ao n c) (.slice ao2 n2 c2) a b).symm ((Mid.fill (o := j * 6) (v0 := .int .i64 nk) (v1 := .string nt) (v2 := .slice ao n c) (v3 := .slice ao2 n2 c2) (v4 := .int .i64 a) (v5 := .int .i64 b) hM.out (by rw [hljH.out]; omega) (by omega)).setCur (.slice (some ⟨g, 0, none⟩) (j + 1) cap))
          rw [← htakeH.out] at hF
          generalize (((((((w5.setCell ⟨g, j * 6, none⟩ (.int .i64 nk)).setCell ⟨g, j * 6 + 1, none⟩ (.string nt)).setCell ⟨g, j * 6 + 2, none⟩ (.slice ao n c)).setCell ⟨g, j * 6 + 3, none⟩ (.slice ao2 n2 c2)).setCell ⟨g, j * 6 + 4, none⟩ (.int .i64 a)).setCell ⟨g, j * 6 + 5, none⟩ (.int .i64 b)).setCell ⟨nb, 2, none⟩ (.slice (some ⟨g, 0, none⟩) (j + 1) cap)) = W at hF ⊢
          have hFH := Lib.hid hF
          have hRW := Lib.hid hF.rdr
          clear hF hM t0 t1 t2 t3 t4 t5 tf0 tf1 tf2 tf3 tf4 tf5 k2 k2a y2 hN6 hS6 hw6
          obtain ⟨d0, d1, d2, g1, g2⟩ := hRW.out.cells
          by_cases hnx : j + 1 < l.length
          · have hat3 : Hid (At T q2 (44 :: (quoteT (ks[j + 1]'(by rw [hkl]; exact hnx)) ++ ((58 : UInt8) :: (valT l[j + 1] ++ (membT (l.drop (j + 2)) (ks.drop (j + 2)) false ++ 125 :: Y)))))) := Lib.hid (by
              have h5 := hat2H.out
              rw [hnextH.out j hnx, List.cons_append, List.append_assoc, List.cons_append, List.append_assoc] at h5
              exact h5)
            go_wp2_with (first
              | (go_at_call 37; refine (blanks_none hRW.out hat3.out hTH.out (NoB_cons (by decide))).mono ?_; rintro e w7 ⟨rfl, n7, rfl⟩)
              | (go_at_call 74; refine (take_yes (c := 44) rfl (by exact hRW.out) hat3.out hTH.out).mono ?_; rintro e w8 ⟨rfl, hw8⟩; have hM8 := Lib.hid ((hFH.out.drewN n7).went hw8); clear hw8))
            go_roundg (l.length - (j + 1))
            case measure => omega
            case rel => exact ⟨j + 1, q2 + 1, _, _, _, _, by omega, rfl, .inl ⟨rfl, hnx, Lib.hid hat3.out.tail⟩, hM8⟩
          · have hat3 : Hid (At T q2 (125 :: Y)) := Lib.hid (by
              have h5 := hat2H.out
              rw [List.drop_eq_nil_of_le (by omega), membT] at h5
              exact h5)
            go_wp2_with (first
              | (go_at_call 37; refine (blanks_none hRW.out hat3.out hTH.out (NoB_cons (by decide))).mono ?_; rintro e w7 ⟨rfl, n7, rfl⟩)
              | (go_at_call 74; refine (take_no (c := 44) (d := 125) rfl (by exact hRW.out) hat3.out hTH.out (by decide)).mono ?_; rintro e w8 ⟨rfl, n8, rfl⟩; have hM8 := hFH.out.drewN n7; have hM8 := hM8.drewN n8; rw [World.drewN_drewN] at hM8; have hM8 := Lib.hid hM8))
            go_roundg (l.length - (j + 1))
            case measure => omega
            case rel => exact ⟨j + 1, q2, _, _, _, _, by omega, rfl, .inr ⟨rfl, by omega, hat3⟩, hM8⟩
        · have hF := Mid.close (haggH.out (.slice ao n c) (.slice ao2 n2 c2) a b).symm (Mid.fill (o := j * 6) (v0 := .int .i64 nk) (v1 := .string nt) (v2 := .slice ao n c) (v3 := .slice ao2 n2 c2) (v4 := .int .i64 a) (v5 := .int .i64 b) (hM.out.setCur (.slice (some ⟨g, 0, none⟩) (j + 1) cap)) (by rw [hljH.out]; omega) (by omega))
          rw [← htakeH.out] at hF
          generalize (((((((w5.setCell ⟨nb, 2, none⟩ (.slice (some ⟨g, 0, none⟩) (j + 1) cap)).setCell ⟨g, j * 6, none⟩ (.int .i64 nk)).setCell ⟨g, j * 6 + 1, none⟩ (.string nt)).setCell ⟨g, j * 6 + 2, none⟩ (.slice ao n c)).setCell ⟨g, j * 6 + 3, none⟩ (.slice ao2 n2 c2)).setCell ⟨g, j * 6 + 4, none⟩ (.int .i64 a)).setCell ⟨g, j * 6 + 5, none⟩ (.int .i64 b)) = W at hF ⊢
          have hFH := Lib.hid hF
          have hRW := Lib.hid hF.rdr
          clear hF hM t0 t1 t2 t3 t4 t5 tf0 tf1 tf2 tf3 tf4 tf5 k2 k2a y2 hN6 hS6 hw6
          obtain ⟨d0, d1, d2, g1, g2⟩ := hRW.out.cells
          by_cases hnx : j + 1 < l.length
          · have hat3 : Hid (At T q2 (44 :: (quoteT (ks[j + 1]'(by rw [hkl]; exact hnx)) ++ ((58 : UInt8) :: (valT l[j + 1] ++ (membT (l.drop (j + 2)) (ks.drop (j + 2)) false ++ 125 :: Y)))))) := Lib.hid (by
              have h5 := hat2H.out
              rw [hnextH.out j hnx, List.cons_append, List.append_assoc, List.cons_append, List.append_assoc] at h5
              exact h5)
            go_wp2_with (first
              | (go_at_call 37; refine (blanks_none hRW.out hat3.out hTH.out (NoB_cons (by decide))).mono ?_; rintro e w7 ⟨rfl, n7, rfl⟩)
              | (go_at_call 74; refine (take_yes (c := 44) rfl (by exact hRW.out) hat3.out hTH.out).mono ?_; rintro e w8 ⟨rfl, hw8⟩; have hM8 := Lib.hid ((hFH.out.drewN n7).went hw8); clear hw8))
            go_roundg (l.length - (j + 1))
            case measure => omega
            case rel => exact ⟨j + 1, q2 + 1, _, _, _, _, by omega, rfl, .inl ⟨rfl, hnx, Lib.hid hat3.out.tail⟩, hM8⟩
          · have hat3 : Hid (At T q2 (125 :: Y)) := Lib.hid (by
              have h5 := hat2H.out
              rw [List.drop_eq_nil_of_le (by omega), membT] at h5
              exact h5)
            go_wp2_with (first
              | (go_at_call 37; refine (blanks_none hRW.out hat3.out hTH.out (NoB_cons (by decide))).mono ?_; rintro e w7 ⟨rfl, n7, rfl⟩)
              | (go_at_call 74; refine (take_no (c := 44) (d := 125) rfl (by exact hRW.out) hat3.out hTH.out (by decide)).mono ?_; rintro e w8 ⟨rfl, n8, rfl⟩; have hM8 := hFH.out.drewN n7; have hM8 := hM8.drewN n8; rw [World.drewN_drewN] at hM8; have hM8 := Lib.hid hM8))
            go_roundg (l.length - (j + 1))
            case measure => omega
            case rel => exact ⟨j + 1, q2, _, _, _, _, by omega, rfl, .inr ⟨rfl, by omega, hat3⟩, hM8⟩
        · have hF := Mid.close (haggH.out (.slice ao n c) (.slice ao2 n2 c2) a b).symm ((Mid.fill (o := j * 6) (v0 := .int .i64 nk) (v1 := .string nt) (v2 := .slice ao n c) (v3 := .slice ao2 n2 c2) (v4 := .int .i64 a) (v5 := .int .i64 b) hM.out (by rw [hljH.out]; omega) (by omega)).setCur (.slice (some ⟨g, 0, none⟩) (j + 1) cap))
          rw [← htakeH.out] at hF
          generalize (((((((w5.setCell ⟨g, j * 6, none⟩ (.int .i64 nk)).setCell ⟨g, j * 6 + 1, none⟩ (.string nt)).setCell ⟨g, j * 6 + 2, none⟩ (.slice ao n c)).setCell ⟨g, j * 6 + 3, none⟩ (.slice ao2 n2 c2)).setCell ⟨g, j * 6 + 4, none⟩ (.int .i64 a)).setCell ⟨g, j * 6 + 5, none⟩ (.int .i64 b)).setCell ⟨nb, 2, none⟩ (.slice (some ⟨g, 0, none⟩) (j + 1) cap)) = W at hF ⊢
          have hFH := Lib.hid hF
          have hRW := Lib.hid hF.rdr
          clear hF hM t0 t1 t2 t3 t4 t5 tf0 tf1 tf2 tf3 tf4 tf5 k2 k2a y2 hN6 hS6 hw6
          obtain ⟨d0, d1, d2, g1, g2⟩ := hRW.out.cells
          by_cases hnx : j + 1 < l.length
          · have hat3 : Hid (At T q2 (44 :: (quoteT (ks[j + 1]'(by rw [hkl]; exact hnx)) ++ ((58 : UInt8) :: (valT l[j + 1] ++ (membT (l.drop (j + 2)) (ks.drop (j + 2)) false ++ 125 :: Y)))))) := Lib.hid (by
              have h5 := hat2H.out
              rw [hnextH.out j hnx, List.cons_append, List.append_assoc, List.cons_append, List.append_assoc] at h5
              exact h5)
            go_wp2_with (first
              | (go_at_call 37; refine (blanks_none hRW.out hat3.out hTH.out (NoB_cons (by decide))).mono ?_; rintro e w7 ⟨rfl, n7, rfl⟩)
              | (go_at_call 74; refine (take_yes (c := 44) rfl (by exact hRW.out) hat3.out hTH.out).mono ?_; rintro e w8 ⟨rfl, hw8⟩; have hM8 := Lib.hid ((hFH.out.drewN n7).went hw8); clear hw8))
            go_roundg (l.length - (j + 1))
            case measure => omega
            case rel => exact ⟨j + 1, q2 + 1, _, _, _, _, by omega, rfl, .inl ⟨rfl, hnx, Lib.hid hat3.out.tail⟩, hM8⟩
          · have hat3 : Hid (At T q2 (125 :: Y)) := Lib.hid (by
              have h5 := hat2H.out
              rw [List.drop_eq_nil_of_le (by omega), membT] at h5
              exact h5)
            go_wp2_with (first
              | (go_at_call 37; refine (blanks_none hRW.out hat3.out hTH.out (NoB_cons (by decide))).mono ?_; rintro e w7 ⟨rfl, n7, rfl⟩)
              | (go_at_call 74; refine (take_no (c := 44) (d := 125) rfl (by exact hRW.out) hat3.out hTH.out (by decide)).mono ?_; rintro e w8 ⟨rfl, n8, rfl⟩; have hM8 := hFH.out.drewN n7; have hM8 := hM8.drewN n8; rw [World.drewN_drewN] at hM8; have hM8 := Lib.hid hM8))
            go_roundg (l.length - (j + 1))
            case measure => omega
            case rel => exact ⟨j + 1, q2, _, _, _, _, by omega, rfl, .inr ⟨rfl, by omega, hat3⟩, hM8⟩
        · have hF := Mid.close (haggH.out (.slice ao n c) (.slice ao2 n2 c2) a b).symm (Mid.fill (o := j * 6) (v0 := .int .i64 nk) (v1 := .string nt) (v2 := .slice ao n c) (v3 := .slice ao2 n2 c2) (v4 := .int .i64 a) (v5 := .int .i64 b) (hM.out.setCur (.slice (some ⟨g, 0, none⟩) (j + 1) cap)) (by rw [hljH.out]; omega) (by omega))
          rw [← htakeH.out] at hF
          generalize (((((((w5.setCell ⟨nb, 2, none⟩ (.slice (some ⟨g, 0, none⟩) (j + 1) cap)).setCell ⟨g, j * 6, none⟩ (.int .i64 nk)).setCell ⟨g, j * 6 + 1, none⟩ (.string nt)).setCell ⟨g, j * 6 + 2, none⟩ (.slice ao n c)).setCell ⟨g, j * 6 + 3, none⟩ (.slice ao2 n2 c2)).setCell ⟨g, j * 6 + 4, none⟩ (.int .i64 a)).setCell ⟨g, j * 6 + 5, none⟩ (.int .i64 b)) = W at hF ⊢
          have hFH := Lib.hid hF
          have hRW := Lib.hid hF.rdr
          clear hF hM t0 t1 t2 t3 t4 t5 tf0 tf1 tf2 tf3 tf4 tf5 k2 k2a y2 hN6 hS6 hw6
          obtain ⟨d0, d1, d2, g1, g2⟩ := hRW.out.cells
          by_cases hnx : j + 1 < l.length
          · have hat3 : Hid (At T q2 (44 :: (quoteT (ks[j + 1]'(by rw [hkl]; exact hnx)) ++ ((58 : UInt8) :: (valT l[j + 1] ++ (membT (l.drop (j + 2)) (ks.drop (j + 2)) false ++ 125 :: Y)))))) := Lib.hid (by
              have h5 := hat2H.out
              rw [hnextH.out j hnx, List.cons_append, List.append_assoc, List.cons_append, List.append_assoc] at h5
              exact h5)
            go_wp2_with (first
              | (go_at_call 37; refine (blanks_none hRW.out hat3.out hTH.out (NoB_cons (by decide))).mono ?_; rintro e w7 ⟨rfl, n7, rfl⟩)
              | (go_at_call 74; refine (take_yes (c := 44) rfl (by exact hRW.out) hat3.out hTH.out).mono ?_; rintro e w8 ⟨rfl, hw8⟩; have hM8 := Lib.hid ((hFH.out.drewN n7).went hw8); clear hw8))
            go_roundg (l.length - (j + 1))
            case measure => omega
            case rel => exact ⟨j + 1, q2 + 1, _, _, _, _, by omega, rfl, .inl ⟨rfl, hnx, Lib.hid hat3.out.tail⟩, hM8⟩
          · have hat3 : Hid (At T q2 (125 :: Y)) := Lib.hid (by
              have h5 := hat2H.out
              rw [List.drop_eq_nil_of_le (by omega), membT] at h5
              exact h5)
            go_wp2_with (first
              | (go_at_call 37; refine (blanks_none hRW.out hat3.out hTH.out (NoB_cons (by decide))).mono ?_; rintro e w7 ⟨rfl, n7, rfl⟩)
              | (go_at_call 74; refine (take_no (c := 44) (d := 125) rfl (by exact hRW.out) hat3.out hTH.out (by decide)).mono ?_; rintro e w8 ⟨rfl, n8, rfl⟩; have hM8 := hFH.out.drewN n7; have hM8 := hM8.drewN n8; rw [World.drewN_drewN] at hM8; have hM8 := Lib.hid hM8))
            go_roundg (l.length - (j + 1))
            case measure => omega
            case rel => exact ⟨j + 1, q2, _, _, _, _, by omega, rfl, .inr ⟨rfl, by omega, hat3⟩, hM8⟩
        · have hF := Mid.close (haggH.out (.slice ao n c) (.slice ao2 n2 c2) a b).symm ((Mid.fill (o := j * 6) (v0 := .int .i64 nk) (v1 := .string nt) (v2 := .slice ao n c) (v3 := .slice ao2 n2 c2) (v4 := .int .i64 a) (v5 := .int .i64 b) hM.out (by rw [hljH.out]; omega) (by omega)).setCur (.slice (some ⟨g, 0, none⟩) (j + 1) cap))
          rw [← htakeH.out] at hF
          generalize (((((((w5.setCell ⟨g, j * 6, none⟩ (.int .i64 nk)).setCell ⟨g, j * 6 + 1, none⟩ (.string nt)).setCell ⟨g, j * 6 + 2, none⟩ (.slice ao n c)).setCell ⟨g, j * 6 + 3, none⟩ (.slice ao2 n2 c2)).setCell ⟨g, j * 6 + 4, none⟩ (.int .i64 a)).setCell ⟨g, j * 6 + 5, none⟩ (.int .i64 b)).setCell ⟨nb, 2, none⟩ (.slice (some ⟨g, 0, none⟩) (j + 1) cap)) = W at hF ⊢
          have hFH := Lib.hid hF
          have hRW := Lib.hid hF.rdr
          clear hF hM t0 t1 t2 t3 t4 t5 tf0 tf1 tf2 tf3 tf4 tf5 k2 k2a y2 hN6 hS6 hw6
          obtain ⟨d0, d1, d2, g1, g2⟩ := hRW.out.cells
          by_cases hnx : j + 1 < l.length
          · have hat3 : Hid (At T q2 (44 :: (quoteT (ks[j + 1]'(by rw [hkl]; exact hnx)) ++ ((58 : UInt8) :: (valT l[j + 1] ++ (membT (l.drop (j + 2)) (ks.drop (j + 2)) false ++ 125 :: Y)))))) := Lib.hid (by
              have h5 := hat2H.out
              rw [hnextH.out j hnx, List.cons_append, List.append_assoc, List.cons_append, List.append_assoc] at h5
              exact h5)
            go_wp2_with (first
              | (go_at_call 37; refine (blanks_none hRW.out hat3.out hTH.out (NoB_cons (by decide))).mono ?_; rintro e w7 ⟨rfl, n7, rfl⟩)
              | (go_at_call 74; refine (take_yes (c := 44) rfl (by exact hRW.out) hat3.out hTH.out).mono ?_; rintro e w8 ⟨rfl, hw8⟩; have hM8 := Lib.hid ((hFH.out.drewN n7).went hw8); clear hw8))
            go_roundg (l.length - (j + 1))
            case measure => omega
            case rel => exact ⟨j + 1, q2 + 1, _, _, _, _, by omega, rfl, .inl ⟨rfl, hnx, Lib.hid hat3.out.tail⟩, hM8⟩
          · have hat3 : Hid (At T q2 (125 :: Y)) := Lib.hid (by
              have h5 := hat2H.out
              rw [List.drop_eq_nil_of_le (by omega), membT] at h5
              exact h5)
            go_wp2_with (first
              | (go_at_call 37; refine (blanks_none hRW.out hat3.out hTH.out (NoB_cons (by decide))).mono ?_; rintro e w7 ⟨rfl, n7, rfl⟩)
              | (go_at_call 74; refine (take_no (c := 44) (d := 125) rfl (by exact hRW.out) hat3.out hTH.out (by decide)).mono ?_; rintro e w8 ⟨rfl, n8, rfl⟩; have hM8 := hFH.out.drewN n7; have hM8 := hM8.drewN n8; rw [World.drewN_drewN] at hM8; have hM8 := Lib.hid hM8))
            go_roundg (l.length - (j + 1))
            case measure => omega
            case rel => exact ⟨j + 1, q2, _, _, _, _, by omega, rfl, .inr ⟨rfl, by omega, hat3⟩, hM8⟩
        · have hF := Mid.close (haggH.out (.slice ao n c) (.slice ao2 n2 c2) a b).symm (Mid.fill (o := j * 6) (v0 := .int .i64 nk) (v1 := .string nt) (v2 := .slice ao n c) (v3 := .slice ao2 n2 c2) (v4 := .int .i64 a) (v5 := .int .i64 b) (hM.out.setCur (.slice (some ⟨g, 0, none⟩) (j + 1) cap)) (by rw [hljH.out]; omega) (by omega))
          rw [← htakeH.out] at hF
          generalize (((((((w5.setCell ⟨nb, 2, none⟩ (.slice (some ⟨g, 0, none⟩) (j + 1) cap)).setCell ⟨g, j * 6, none⟩ (.int .i64 nk)).setCell ⟨g, j * 6 + 1, none⟩ (.string nt)).setCell ⟨g, j * 6 + 2, none⟩ (.slice ao n c)).setCell ⟨g, j * 6 + 3, none⟩ (.slice ao2 n2 c2)).setCell ⟨g, j * 6 + 4, none⟩ (.int .i64 a)).setCell ⟨g, j * 6 + 5, none⟩ (.int .i64 b)) = W at hF ⊢
          have hFH := Lib.hid hF
          have hRW := Lib.hid hF.rdr
          clear hF hM t0 t1 t2 t3 t4 t5 tf0 tf1 tf2 tf3 tf4 tf5 k2 k2a y2 hN6 hS6 hw6
          obtain ⟨d0, d1, d2, g1, g2⟩ := hRW.out.cells
          by_cases hnx : j + 1 < l.length
          · have hat3 : Hid (At T q2 (44 :: (quoteT (ks[j + 1]'(by rw [hkl]; exact hnx)) ++ ((58 : UInt8) :: (valT l[j + 1] ++ (membT (l.drop (j + 2)) (ks.drop (j + 2)) false ++ 125 :: Y)))))) := Lib.hid (by
              have h5 := hat2H.out
              rw [hnextH.out j hnx, List.cons_append, List.append_assoc, List.cons_append, List.append_assoc] at h5
              exact h5)
            go_wp2_with (first
              | (go_at_call 37; refine (blanks_none hRW.out hat3.out hTH.out (NoB_cons (by decide))).mono ?_; rintro e w7 ⟨rfl, n7, rfl⟩)
              | (go_at_call 74; refine (take_yes (c := 44) rfl (by exact hRW.out) hat3.out hTH.out).mono ?_; rintro e w8 ⟨rfl, hw8⟩; have hM8 := Lib.hid ((hFH.out.drewN n7).went hw8); clear hw8))
            go_roundg (l.length - (j + 1))
            case measure => omega
            case rel => exact ⟨j + 1, q2 + 1, _, _, _, _, by omega, rfl, .inl ⟨rfl, hnx, Lib.hid hat3.out.tail⟩, hM8⟩
          · have hat3 : Hid (At T q2 (125 :: Y)) := Lib.hid (by
              have h5 := hat2H.out
              rw [List.drop_eq_nil_of_le (by omega), membT] at h5
              exact h5)
            go_wp2_with (first
              | (go_at_call 37; refine (blanks_none hRW.out hat3.out hTH.out (NoB_cons (by decide))).mono ?_; rintro e w7 ⟨rfl, n7, rfl⟩)
              | (go_at_call 74; refine (take_no (c := 44) (d := 125) rfl (by exact hRW.out) hat3.out hTH.out (by decide)).mono ?_; rintro e w8 ⟨rfl, n8, rfl⟩; have hM8 := hFH.out.drewN n7; have hM8 := hM8.drewN n8; rw [World.drewN_drewN] at hM8; have hM8 := Lib.hid hM8))
            go_roundg (l.length - (j + 1))
            case measure => omega
            case rel => exact ⟨j + 1, q2, _, _, _, _, by omega, rfl, .inr ⟨rfl, by omega, hat3⟩, hM8⟩
      · have hM := Lib.hid hKey.out
        rw [← hktakeH.out] at hM
        generalize w4.setCell ⟨nb, 3, none⟩ (.slice (some ⟨gk, 0, none⟩) (j + 1) capk) = W4 at hM ⊢
        clear hKey k3 y3
        have hM := Lib.hid hM
        go_wp2_with (first
          | (go_at_call 37; refine (blanks_none hM.out.rdr hcolH.out hTH.out (NoB_cons (by decide))).mono ?_; rintro e w7 ⟨rfl, n7, rfl⟩)
          | (go_at_call 74; refine (take_yes (c := 58) rfl (by exact hM.out.rdr) hcolH.out hTH.out).mono ?_; rintro e w9 ⟨rfl, hw9⟩; have hM := Lib.hid ((hM.out.drewN n7).went hw9); clear hw9))
        have k2 : w9.cell? ⟨nb, 2, none⟩ = some (.slice lo j lc) := cells_of hM.out.blk 2
        have y2 : w9.frozen? ⟨nb, 2, none⟩ = false := free_of hM.out.blk 2
        have k2a := fun o => cells_alloc hM.out.blk o 2
        simp only [List.getElem?_toArray, List.getElem?_cons_zero, List.getElem?_cons_succ] at k2a
        have hM := Lib.hid hM.out.drew
        have hrbw : rb < w9.heap.size := hM.out.rdr.lt
        go_region_law (first
          | (refine step_append_lies _ rfl (.tmp 48) (.tmp 54) 46 rfl w0.heap.size 48 i0 (.agg #[.int .i64 0, .string ⟨#[]⟩, .slice none 0 0, .slice none 0 0, .int .i64 0, .int .i64 0]) 6 88 Tryz.underlying46 hi hz0 hz1 hz2 rfl (by omega) (.slice lo j lc) j (xs ++ []) (by simp [Act.eval, Act.put]) (by exact (hM.out.alloc _).rows) ⟨w9.heap.size, 0, none⟩ 1 1 zeroN (by simp [Act.eval, Act.put]) rfl (World.news_of_block (by exact heap_alloc_new _ _)) hne1.out (by omega) (by unfold maxLen; omega) (by omega) (by have := hM.out.kp.size; simp at this ⊢; omega) _ rfl ?_; intro g cap w5 hown5 hgrow5 hat5 hlt5; have hM := Lib.hid (Mid.grow (hM.out.alloc _) hown5 hgrow5 (hat5.imp id fun h => Nat.le_of_eq h.symm)); clear hown5 hgrow5 hat5 hlt5; have k2 := cells_of hM.out.blk 2; have y2 := free_of hM.out.blk 2; have k2a := fun o => cells_alloc hM.out.blk o 2; simp only [List.getElem?_toArray, List.getElem?_cons_zero, List.getElem?_cons_succ] at k2 k2a; (try (obtain ⟨⟨t0, t1, t2, t3, t4, t5⟩, tf⟩ := own_tail (o := j * 6) (by have := hM.out.nodes.1; rw [hljH.out] at this; omega) hM.out.rows; have tf0 := tf (j * 6); have tf1 := tf (j * 6 + 1); have tf2 := tf (j * 6 + 2); have tf3 := tf (j * 6 + 3); have tf4 := tf (j * 6 + 4); have tf5 := tf (j * 6 + 5); clear tf; have hgnb : ¬ g = nb := (by have := (hM.out.rows.lt g rfl).1; have := hM.out.low.2.1; omega); have hnbg : ¬ nb = g := (fun e => hgnb e.symm))))
          | (refine step_append_lies _ rfl (.tmp 48) (.tmp 54) 46 rfl w0.heap.size 48 i0 (.agg #[.int .i64 0, .string ⟨#[]⟩, .slice none 0 0, .slice none 0 0, .int .i64 0, .int .i64 0]) 6 88 Tryz.underlying46 hi hz0 hz1 hz2 rfl (by omega) (.slice lo j lc) j (xs ++ []) (by simp [Act.eval, Act.put]) (by exact hM.out.rows) ⟨w9.heap.size, 0, none⟩ 1 1 zeroN (by simp [Act.eval, Act.put]) rfl (World.news_of_block (by exact hw6.2.at (by simp) (by show ¬ w9.heap.size = rb; omega) (heap_alloc_new _ _))) hne1.out (by omega) (by unfold maxLen; omega) (by omega) (by have := hM.out.kp.size; simp at this ⊢; omega) _ rfl ?_; intro g cap w5 hown5 hgrow5 hat5 hlt5; have hM := Lib.hid (Mid.grow hM.out hown5 hgrow5 (hat5.imp id fun h => Nat.le_of_eq h.symm)); clear hown5 hgrow5 hat5 hlt5; have k2 := cells_of hM.out.blk 2; have y2 := free_of hM.out.blk 2; have k2a := fun o => cells_alloc hM.out.blk o 2; simp only [List.getElem?_toArray, List.getElem?_cons_zero, List.getElem?_cons_succ] at k2 k2a; (try (obtain ⟨⟨t0, t1, t2, t3, t4, t5⟩, tf⟩ := own_tail (o := j * 6) (by have := hM.out.nodes.1; rw [hljH.out] at this; omega) hM.out.rows; have tf0 := tf (j * 6); have tf1 := tf (j * 6 + 1); have tf2 := tf (j * 6 + 2); have tf3 := tf (j * 6 + 3); have tf4 := tf (j * 6 + 4); have tf5 := tf (j * 6 + 5); clear tf; have hgnb : ¬ g = nb := (by have := (hM.out.rows.lt g rfl).1; have := hM.out.low.2.1; omega); have hnbg : ¬ nb = g := (fun e => hgnb e.symm))))
          | (refine step_append_lies _ rfl (.tmp 48) (.tmp 54) 46 rfl w0.heap.size 48 i0 (.agg #[.int .i64 0, .string ⟨#[]⟩, .slice none 0 0, .slice none 0 0, .int .i64 0, .int .i64 0]) 6 88 Tryz.underlying46 hi hz0 hz1 hz2 rfl (by omega) (.slice lo j lc) j (xs ++ []) (by simp [Act.eval, Act.put]) (by exact (hM.out.alloc _).rows) ⟨w6.heap.size, 0, none⟩ 1 1 zeroN (by simp [Act.eval, Act.put]) rfl (World.news_of_block (by exact heap_alloc_new _ _)) hne1.out (by omega) (by unfold maxLen; omega) (by omega) (by have := hM.out.kp.size; simp at this ⊢; omega) _ rfl ?_; intro g cap w5 hown5 hgrow5 hat5 hlt5; have hM := Lib.hid (Mid.grow (hM.out.alloc _) hown5 hgrow5 (hat5.imp id fun h => Nat.le_of_eq h.symm)); clear hown5 hgrow5 hat5 hlt5; have k2 := cells_of hM.out.blk 2; have y2 := free_of hM.out.blk 2; have k2a := fun o => cells_alloc hM.out.blk o 2; simp only [List.getElem?_toArray, List.getElem?_cons_zero, List.getElem?_cons_succ] at k2 k2a; (try (obtain ⟨⟨t0, t1, t2, t3, t4, t5⟩, tf⟩ := own_tail (o := j * 6) (by have := hM.out.nodes.1; rw [hljH.out] at this; omega) hM.out.rows; have tf0 := tf (j * 6); have tf1 := tf (j * 6 + 1); have tf2 := tf (j * 6 + 2); have tf3 := tf (j * 6 + 3); have tf4 := tf (j * 6 + 4); have tf5 := tf (j * 6 + 5); clear tf; have hgnb : ¬ g = nb := (by have := (hM.out.rows.lt g rfl).1; have := hM.out.low.2.1; omega); have hnbg : ¬ nb = g := (fun e => hgnb e.symm))))
          | (go_simp; go_at_call 36; rw [hwrH.out]; refine (hv3H.out _ (by first | exact hM.out.rdr | exact (hM.out.alloc _).rdr | exact (hM.out.setCur _).rdr)).mono ?_; rintro e w6 ⟨ao, n, c, ao2, n2, c2, a, b, S2, rfl, hN6, hS6, hw6⟩; (first | have hM := Lib.hid (Mid.read hM.out hw6 hN6 hS6) | have hM := Lib.hid (Mid.read (hM.out.alloc _) hw6 hN6 hS6) | have hM := Lib.hid (Mid.read (hM.out.setCur _) hw6 hN6 hS6)); have k2 := cells_of hM.out.blk 2; have y2 := free_of hM.out.blk 2; have k2a := fun o => cells_alloc hM.out.blk o 2; simp only [List.getElem?_toArray, List.getElem?_cons_zero, List.getElem?_cons_succ] at k2 k2a; (try (obtain ⟨⟨t0, t1, t2, t3, t4, t5⟩, tf⟩ := own_tail (o := j * 6) (by have := hM.out.nodes.1; rw [hljH.out] at this; omega) hM.out.rows; have tf0 := tf (j * 6); have tf1 := tf (j * 6 + 1); have tf2 := tf (j * 6 + 2); have tf3 := tf (j * 6 + 3); have tf4 := tf (j * 6 + 4); have tf5 := tf (j * 6 + 5); clear tf; have hgnb : ¬ g = nb := (by have := (hM.out.rows.lt g rfl).1; have := hM.out.low.2.1; omega); have hnbg : ¬ nb = g := (fun e => hgnb e.symm)))))
        · have hF := Mid.close (haggH.out (.slice ao n c) (.slice ao2 n2 c2) a b).symm ((Mid.fill (o := j * 6) (v0 := .int .i64 nk) (v1 := .string nt) (v2 := .slice ao n c) (v3 := .slice ao2 n2 c2) (v4 := .int .i64 a) (v5 := .int .i64 b) hM.out (by rw [hljH.out]; omega) (by omega)).setCur (.slice (some ⟨g, 0, none⟩) (j + 1) cap))
          rw [← htakeH.out] at hF
          generalize (((((((w5.setCell ⟨g, j * 6, none⟩ (.int .i64 nk)).setCell ⟨g, j * 6 + 1, none⟩ (.string nt)).setCell ⟨g, j * 6 + 2, none⟩ (.slice ao n c)).setCell ⟨g, j * 6 + 3, none⟩ (.slice ao2 n2 c2)).setCell ⟨g, j * 6 + 4, none⟩ (.int .i64 a)).setCell ⟨g, j * 6 + 5, none⟩ (.int .i64 b)).setCell ⟨nb, 2, none⟩ (.slice (some ⟨g, 0, none⟩) (j + 1) cap)) = W at hF ⊢
          have hFH := Lib.hid hF
          have hRW := Lib.hid hF.rdr
          clear hF hM t0 t1 t2 t3 t4 t5 tf0 tf1 tf2 tf3 tf4 tf5 k2 k2a y2 hN6 hS6 hw6
          obtain ⟨d0, d1, d2, g1, g2⟩ := hRW.out.cells
          by_cases hnx : j + 1 < l.length
          · have hat3 : Hid (At T q2 (44 :: (quoteT (ks[j + 1]'(by rw [hkl]; exact hnx)) ++ ((58 : UInt8) :: (valT l[j + 1] ++ (membT (l.drop (j + 2)) (ks.drop (j + 2)) false ++ 125 :: Y)))))) := Lib.hid (by
              have h5 := hat2H.out
              rw [hnextH.out j hnx, List.cons_append, List.append_assoc, List.cons_append, List.append_assoc] at h5
              exact h5)
            go_wp2_with (first
              | (go_at_call 37; refine (blanks_none hRW.out hat3.out hTH.out (NoB_cons (by decide))).mono ?_; rintro e w7 ⟨rfl, n7, rfl⟩)
              | (go_at_call 74; refine (take_yes (c := 44) rfl (by exact hRW.out) hat3.out hTH.out).mono ?_; rintro e w8 ⟨rfl, hw8⟩; have hM8 := Lib.hid ((hFH.out.drewN n7).went hw8); clear hw8))
            go_roundg (l.length - (j + 1))
            case measure => omega
            case rel => exact ⟨j + 1, q2 + 1, _, _, _, _, by omega, rfl, .inl ⟨rfl, hnx, Lib.hid hat3.out.tail⟩, hM8⟩
          · have hat3 : Hid (At T q2 (125 :: Y)) := Lib.hid (by
              have h5 := hat2H.out
              rw [List.drop_eq_nil_of_le (by omega), membT] at h5
              exact h5)
            go_wp2_with (first
              | (go_at_call 37; refine (blanks_none hRW.out hat3.out hTH.out (NoB_cons (by decide))).mono ?_; rintro e w7 ⟨rfl, n7, rfl⟩)
              | (go_at_call 74; refine (take_no (c := 44) (d := 125) rfl (by exact hRW.out) hat3.out hTH.out (by decide)).mono ?_; rintro e w8 ⟨rfl, n8, rfl⟩; have hM8 := hFH.out.drewN n7; have hM8 := hM8.drewN n8; rw [World.drewN_drewN] at hM8; have hM8 := Lib.hid hM8))
            go_roundg (l.length - (j + 1))
            case measure => omega
            case rel => exact ⟨j + 1, q2, _, _, _, _, by omega, rfl, .inr ⟨rfl, by omega, hat3⟩, hM8⟩
        · have hF := Mid.close (haggH.out (.slice ao n c) (.slice ao2 n2 c2) a b).symm (Mid.fill (o := j * 6) (v0 := .int .i64 nk) (v1 := .string nt) (v2 := .slice ao n c) (v3 := .slice ao2 n2 c2) (v4 := .int .i64 a) (v5 := .int .i64 b) (hM.out.setCur (.slice (some ⟨g, 0, none⟩) (j + 1) cap)) (by rw [hljH.out]; omega) (by omega))
          rw [← htakeH.out] at hF
          generalize (((((((w5.setCell ⟨nb, 2, none⟩ (.slice (some ⟨g, 0, none⟩) (j + 1) cap)).setCell ⟨g, j * 6, none⟩ (.int .i64 nk)).setCell ⟨g, j * 6 + 1, none⟩ (.string nt)).setCell ⟨g, j * 6 + 2, none⟩ (.slice ao n c)).setCell ⟨g, j * 6 + 3, none⟩ (.slice ao2 n2 c2)).setCell ⟨g, j * 6 + 4, none⟩ (.int .i64 a)).setCell ⟨g, j * 6 + 5, none⟩ (.int .i64 b)) = W at hF ⊢
          have hFH := Lib.hid hF
          have hRW := Lib.hid hF.rdr
          clear hF hM t0 t1 t2 t3 t4 t5 tf0 tf1 tf2 tf3 tf4 tf5 k2 k2a y2 hN6 hS6 hw6
          obtain ⟨d0, d1, d2, g1, g2⟩ := hRW.out.cells
          by_cases hnx : j + 1 < l.length
          · have hat3 : Hid (At T q2 (44 :: (quoteT (ks[j + 1]'(by rw [hkl]; exact hnx)) ++ ((58 : UInt8) :: (valT l[j + 1] ++ (membT (l.drop (j + 2)) (ks.drop (j + 2)) false ++ 125 :: Y)))))) := Lib.hid (by
              have h5 := hat2H.out
              rw [hnextH.out j hnx, List.cons_append, List.append_assoc, List.cons_append, List.append_assoc] at h5
              exact h5)
            go_wp2_with (first
              | (go_at_call 37; refine (blanks_none hRW.out hat3.out hTH.out (NoB_cons (by decide))).mono ?_; rintro e w7 ⟨rfl, n7, rfl⟩)
              | (go_at_call 74; refine (take_yes (c := 44) rfl (by exact hRW.out) hat3.out hTH.out).mono ?_; rintro e w8 ⟨rfl, hw8⟩; have hM8 := Lib.hid ((hFH.out.drewN n7).went hw8); clear hw8))
            go_roundg (l.length - (j + 1))
            case measure => omega
            case rel => exact ⟨j + 1, q2 + 1, _, _, _, _, by omega, rfl, .inl ⟨rfl, hnx, Lib.hid hat3.out.tail⟩, hM8⟩
          · have hat3 : Hid (At T q2 (125 :: Y)) := Lib.hid (by
              have h5 := hat2H.out
              rw [List.drop_eq_nil_of_le (by omega), membT] at h5
              exact h5)
            go_wp2_with (first
              | (go_at_call 37; refine (blanks_none hRW.out hat3.out hTH.out (NoB_cons (by decide))).mono ?_; rintro e w7 ⟨rfl, n7, rfl⟩)
              | (go_at_call 74; refine (take_no (c := 44) (d := 125) rfl (by exact hRW.out) hat3.out hTH.out (by decide)).mono ?_; rintro e w8 ⟨rfl, n8, rfl⟩; have hM8 := hFH.out.drewN n7; have hM8 := hM8.drewN n8; rw [World.drewN_drewN] at hM8; have hM8 := Lib.hid hM8))
            go_roundg (l.length - (j + 1))
            case measure => omega
            case rel => exact ⟨j + 1, q2, _, _, _, _, by omega, rfl, .inr ⟨rfl, by omega, hat3⟩, hM8⟩
        · have hF := Mid.close (haggH.out (.slice ao n c) (.slice ao2 n2 c2) a b).symm ((Mid.fill (o := j * 6) (v0 := .int .i64 nk) (v1 := .string nt) (v2 := .slice ao n c) (v3 := .slice ao2 n2 c2) (v4 := .int .i64 a) (v5 := .int .i64 b) hM.out (by rw [hljH.out]; omega) (by omega)).setCur (.slice (some ⟨g, 0, none⟩) (j + 1) cap))
          rw [← htakeH.out] at hF
          generalize (((((((w5.setCell ⟨g, j * 6, none⟩ (.int .i64 nk)).setCell ⟨g, j * 6 + 1, none⟩ (.string nt)).setCell ⟨g, j * 6 + 2, none⟩ (.slice ao n c)).setCell ⟨g, j * 6 + 3, none⟩ (.slice ao2 n2 c2)).setCell ⟨g, j * 6 + 4, none⟩ (.int .i64 a)).setCell ⟨g, j * 6 + 5, none⟩ (.int .i64 b)).setCell ⟨nb, 2, none⟩ (.slice (some ⟨g, 0, none⟩) (j + 1) cap)) = W at hF ⊢
          have hFH := Lib.hid hF
          have hRW := Lib.hid hF.rdr
          clear hF hM t0 t1 t2 t3 t4 t5 tf0 tf1 tf2 tf3 tf4 tf5 k2 k2a y2 hN6 hS6 hw6
          obtain ⟨d0, d1, d2, g1, g2⟩ := hRW.out.cells
          by_cases hnx : j + 1 < l.length
          · have hat3 : Hid (At T q2 (44 :: (quoteT (ks[j + 1]'(by rw [hkl]; exact hnx)) ++ ((58 : UInt8) :: (valT l[j + 1] ++ (membT (l.drop (j + 2)) (ks.drop (j + 2)) false ++ 125 :: Y)))))) := Lib.hid (by
              have h5 := hat2H.out
              rw [hnextH.out j hnx, List.cons_append, List.append_assoc, List.cons_append, List.append_assoc] at h5
              exact h5)
            go_wp2_with (first
              | (go_at_call 37; refine (blanks_none hRW.out hat3.out hTH.out (NoB_cons (by decide))).mono ?_; rintro e w7 ⟨rfl, n7, rfl⟩)
              | (go_at_call 74; refine (take_yes (c := 44) rfl (by exact hRW.out) hat3.out hTH.out).mono ?_; rintro e w8 ⟨rfl, hw8⟩; have hM8 := Lib.hid ((hFH.out.drewN n7).went hw8); clear hw8))
            go_roundg (l.length - (j + 1))
            case measure => omega
            case rel => exact ⟨j + 1, q2 + 1, _, _, _, _, by omega, rfl, .inl ⟨rfl, hnx, Lib.hid hat3.out.tail⟩, hM8⟩
          · have hat3 : Hid (At T q2 (125 :: Y)) := Lib.hid (by
              have h5 := hat2H.out
              rw [List.drop_eq_nil_of_le (by omega), membT] at h5
              exact h5)
            go_wp2_with (first
              | (go_at_call 37; refine (blanks_none hRW.out hat3.out hTH.out (NoB_cons (by decide))).mono ?_; rintro e w7 ⟨rfl, n7, rfl⟩)
              | (go_at_call 74; refine (take_no (c := 44) (d := 125) rfl (by exact hRW.out) hat3.out hTH.out (by decide)).mono ?_; rintro e w8 ⟨rfl, n8, rfl⟩; have hM8 := hFH.out.drewN n7; have hM8 := hM8.drewN n8; rw [World.drewN_drewN] at hM8; have hM8 := Lib.hid hM8))
            go_roundg (l.length - (j + 1))
            case measure => omega
            case rel => exact ⟨j + 1, q2, _, _, _, _, by omega, rfl, .inr ⟨rfl, by omega, hat3⟩, hM8⟩
        · have hF := Mid.close (haggH.out (.slice ao n c) (.slice ao2 n2 c2) a b).symm (Mid.fill (o := j * 6) (v0 := .int .i64 nk) (v1 := .string nt) (v2 := .slice ao n c) (v3 := .slice ao2 n2 c2) (v4 := .int .i64 a) (v5 := .int .i64 b) (hM.out.setCur (.slice (some ⟨g, 0, none⟩) (j + 1) cap)) (by rw [hljH.out]; omega) (by omega))
          rw [← htakeH.out] at hF
          generalize (((((((w5.setCell ⟨nb, 2, none⟩ (.slice (some ⟨g, 0, none⟩) (j + 1) cap)).setCell ⟨g, j * 6, none⟩ (.int .i64 nk)).setCell ⟨g, j * 6 + 1, none⟩ (.string nt)).setCell ⟨g, j * 6 + 2, none⟩ (.slice ao n c)).setCell ⟨g, j * 6 + 3, none⟩ (.slice ao2 n2 c2)).setCell ⟨g, j * 6 + 4, none⟩ (.int .i64 a)).setCell ⟨g, j * 6 + 5, none⟩ (.int .i64 b)) = W at hF ⊢
          have hFH := Lib.hid hF
          have hRW := Lib.hid hF.rdr
          clear hF hM t0 t1 t2 t3 t4 t5 tf0 tf1 tf2 tf3 tf4 tf5 k2 k2a y2 hN6 hS6 hw6
          obtain ⟨d0, d1, d2, g1, g2⟩ := hRW.out.cells
          by_cases hnx : j + 1 < l.length
          · have hat3 : Hid (At T q2 (44 :: (quoteT (ks[j + 1]'(by rw [hkl]; exact hnx)) ++ ((58 : UInt8) :: (valT l[j + 1] ++ (membT (l.drop (j + 2)) (ks.drop (j + 2)) false ++ 125 :: Y)))))) := Lib.hid (by
              have h5 := hat2H.out
              rw [hnextH.out j hnx, List.cons_append, List.append_assoc, List.cons_append, List.append_assoc] at h5
              exact h5)
            go_wp2_with (first
              | (go_at_call 37; refine (blanks_none hRW.out hat3.out hTH.out (NoB_cons (by decide))).mono ?_; rintro e w7 ⟨rfl, n7, rfl⟩)
              | (go_at_call 74; refine (take_yes (c := 44) rfl (by exact hRW.out) hat3.out hTH.out).mono ?_; rintro e w8 ⟨rfl, hw8⟩; have hM8 := Lib.hid ((hFH.out.drewN n7).went hw8); clear hw8))
            go_roundg (l.length - (j + 1))
            case measure => omega
            case rel => exact ⟨j + 1, q2 + 1, _, _, _, _, by omega, rfl, .inl ⟨rfl, hnx, Lib.hid hat3.out.tail⟩, hM8⟩
          · have hat3 : Hid (At T q2 (125 :: Y)) := Lib.hid (by
              have h5 := hat2H.out
              rw [List.drop_eq_nil_of_le (by omega), membT] at h5
              exact h5)
            go_wp2_with (first
              | (go_at_call 37; refine (blanks_none hRW.out hat3.out hTH.out (NoB_cons (by decide))).mono ?_; rintro e w7 ⟨rfl, n7, rfl⟩)
              | (go_at_call 74; refine (take_no (c := 44) (d := 125) rfl (by exact hRW.out) hat3.out hTH.out (by decide)).mono ?_; rintro e w8 ⟨rfl, n8, rfl⟩; have hM8 := hFH.out.drewN n7; have hM8 := hM8.drewN n8; rw [World.drewN_drewN] at hM8; have hM8 := Lib.hid hM8))
            go_roundg (l.length - (j + 1))
            case measure => omega
            case rel => exact ⟨j + 1, q2, _, _, _, _, by omega, rfl, .inr ⟨rfl, by omega, hat3⟩, hM8⟩
        · have hF := Mid.close (haggH.out (.slice ao n c) (.slice ao2 n2 c2) a b).symm ((Mid.fill (o := j * 6) (v0 := .int .i64 nk) (v1 := .string nt) (v2 := .slice ao n c) (v3 := .slice ao2 n2 c2) (v4 := .int .i64 a) (v5 := .int .i64 b) hM.out (by rw [hljH.out]; omega) (by omega)).setCur (.slice (some ⟨g, 0, none⟩) (j + 1) cap))
          rw [← htakeH.out] at hF
          generalize (((((((w5.setCell ⟨g, j * 6, none⟩ (.int .i64 nk)).setCell ⟨g, j * 6 + 1, none⟩ (.string nt)).setCell ⟨g, j * 6 + 2, none⟩ (.slice ao n c)).setCell ⟨g, j * 6 + 3, none⟩ (.slice ao2 n2 c2)).setCell ⟨g, j * 6 + 4, none⟩ (.int .i64 a)).setCell ⟨g, j * 6 + 5, none⟩ (.int .i64 b)).setCell ⟨nb, 2, none⟩ (.slice (some ⟨g, 0, none⟩) (j + 1) cap)) = W at hF ⊢
          have hFH := Lib.hid hF
          have hRW := Lib.hid hF.rdr
          clear hF hM t0 t1 t2 t3 t4 t5 tf0 tf1 tf2 tf3 tf4 tf5 k2 k2a y2 hN6 hS6 hw6
          obtain ⟨d0, d1, d2, g1, g2⟩ := hRW.out.cells
          by_cases hnx : j + 1 < l.length
          · have hat3 : Hid (At T q2 (44 :: (quoteT (ks[j + 1]'(by rw [hkl]; exact hnx)) ++ ((58 : UInt8) :: (valT l[j + 1] ++ (membT (l.drop (j + 2)) (ks.drop (j + 2)) false ++ 125 :: Y)))))) := Lib.hid (by
              have h5 := hat2H.out
              rw [hnextH.out j hnx, List.cons_append, List.append_assoc, List.cons_append, List.append_assoc] at h5
              exact h5)
            go_wp2_with (first
              | (go_at_call 37; refine (blanks_none hRW.out hat3.out hTH.out (NoB_cons (by decide))).mono ?_; rintro e w7 ⟨rfl, n7, rfl⟩)
              | (go_at_call 74; refine (take_yes (c := 44) rfl (by exact hRW.out) hat3.out hTH.out).mono ?_; rintro e w8 ⟨rfl, hw8⟩; have hM8 := Lib.hid ((hFH.out.drewN n7).went hw8); clear hw8))
            go_roundg (l.length - (j + 1))
            case measure => omega
            case rel => exact ⟨j + 1, q2 + 1, _, _, _, _, by omega, rfl, .inl ⟨rfl, hnx, Lib.hid hat3.out.tail⟩, hM8⟩
          · have hat3 : Hid (At T q2 (125 :: Y)) := Lib.hid (by
              have h5 := hat2H.out
              rw [List.drop_eq_nil_of_le (by omega), membT] at h5
              exact h5)
            go_wp2_with (first
              | (go_at_call 37; refine (blanks_none hRW.out hat3.out hTH.out (NoB_cons (by decide))).mono ?_; rintro e w7 ⟨rfl, n7, rfl⟩)
              | (go_at_call 74; refine (take_no (c := 44) (d := 125) rfl (by exact hRW.out) hat3.out hTH.out (by decide)).mono ?_; rintro e w8 ⟨rfl, n8, rfl⟩; have hM8 := hFH.out.drewN n7; have hM8 := hM8.drewN n8; rw [World.drewN_drewN] at hM8; have hM8 := Lib.hid hM8))
            go_roundg (l.length - (j + 1))
            case measure => omega
            case rel => exact ⟨j + 1, q2, _, _, _, _, by omega, rfl, .inr ⟨rfl, by omega, hat3⟩, hM8⟩
        · have hF := Mid.close (haggH.out (.slice ao n c) (.slice ao2 n2 c2) a b).symm (Mid.fill (o := j * 6) (v0 := .int .i64 nk) (v1 := .string nt) (v2 := .slice ao n c) (v3 := .slice ao2 n2 c2) (v4 := .int .i64 a) (v5 := .int .i64 b) (hM.out.setCur (.slice (some ⟨g, 0, none⟩) (j + 1) cap)) (by rw [hljH.out]; omega) (by omega))
          rw [← htakeH.out] at hF
          generalize (((((((w5.setCell ⟨nb, 2, none⟩ (.slice (some ⟨g, 0, none⟩) (j + 1) cap)).setCell ⟨g, j * 6, none⟩ (.int .i64 nk)).setCell ⟨g, j * 6 + 1, none⟩ (.string nt)).setCell ⟨g, j * 6 + 2, none⟩ (.slice ao n c)).setCell ⟨g, j * 6 + 3, none⟩ (.slice ao2 n2 c2)).setCell ⟨g, j * 6 + 4, none⟩ (.int .i64 a)).setCell ⟨g, j * 6 + 5, none⟩ (.int .i64 b)) = W at hF ⊢
          have hFH := Lib.hid hF
          have hRW := Lib.hid hF.rdr
          clear hF hM t0 t1 t2 t3 t4 t5 tf0 tf1 tf2 tf3 tf4 tf5 k2 k2a y2 hN6 hS6 hw6
          obtain ⟨d0, d1, d2, g1, g2⟩ := hRW.out.cells
          by_cases hnx : j + 1 < l.length
          · have hat3 : Hid (At T q2 (44 :: (quoteT (ks[j + 1]'(by rw [hkl]; exact hnx)) ++ ((58 : UInt8) :: (valT l[j + 1] ++ (membT (l.drop (j + 2)) (ks.drop (j + 2)) false ++ 125 :: Y)))))) := Lib.hid (by
              have h5 := hat2H.out
              rw [hnextH.out j hnx, List.cons_append, List.append_assoc, List.cons_append, List.append_assoc] at h5
              exact h5)
            go_wp2_with (first
              | (go_at_call 37; refine (blanks_none hRW.out hat3.out hTH.out (NoB_cons (by decide))).mono ?_; rintro e w7 ⟨rfl, n7, rfl⟩)
              | (go_at_call 74; refine (take_yes (c := 44) rfl (by exact hRW.out) hat3.out hTH.out).mono ?_; rintro e w8 ⟨rfl, hw8⟩; have hM8 := Lib.hid ((hFH.out.drewN n7).went hw8); clear hw8))
            go_roundg (l.length - (j + 1))
            case measure => omega
            case rel => exact ⟨j + 1, q2 + 1, _, _, _, _, by omega, rfl, .inl ⟨rfl, hnx, Lib.hid hat3.out.tail⟩, hM8⟩
          · have hat3 : Hid (At T q2 (125 :: Y)) := Lib.hid (by
              have h5 := hat2H.out
              rw [List.drop_eq_nil_of_le (by omega), membT] at h5
              exact h5)
            go_wp2_with (first
              | (go_at_call 37; refine (blanks_none hRW.out hat3.out hTH.out (NoB_cons (by decide))).mono ?_; rintro e w7 ⟨rfl, n7, rfl⟩)
              | (go_at_call 74; refine (take_no (c := 44) (d := 125) rfl (by exact hRW.out) hat3.out hTH.out (by decide)).mono ?_; rintro e w8 ⟨rfl, n8, rfl⟩; have hM8 := hFH.out.drewN n7; have hM8 := hM8.drewN n8; rw [World.drewN_drewN] at hM8; have hM8 := Lib.hid hM8))
            go_roundg (l.length - (j + 1))
            case measure => omega
            case rel => exact ⟨j + 1, q2, _, _, _, _, by omega, rfl, .inr ⟨rfl, by omega, hat3⟩, hM8⟩
        · have hF := Mid.close (haggH.out (.slice ao n c) (.slice ao2 n2 c2) a b).symm ((Mid.fill (o := j * 6) (v0 := .int .i64 nk) (v1 := .string nt) (v2 := .slice ao n c) (v3 := .slice ao2 n2 c2) (v4 := .int .i64 a) (v5 := .int .i64 b) hM.out (by rw [hljH.out]; omega) (by omega)).setCur (.slice (some ⟨g, 0, none⟩) (j + 1) cap))
          rw [← htakeH.out] at hF
          generalize (((((((w5.setCell ⟨g, j * 6, none⟩ (.int .i64 nk)).setCell ⟨g, j * 6 + 1, none⟩ (.string nt)).setCell ⟨g, j * 6 + 2, none⟩ (.slice ao n c)).setCell ⟨g, j * 6 + 3, none⟩ (.slice ao2 n2 c2)).setCell ⟨g, j * 6 + 4, none⟩ (.int .i64 a)).setCell ⟨g, j * 6 + 5, none⟩ (.int .i64 b)).setCell ⟨nb, 2, none⟩ (.slice (some ⟨g, 0, none⟩) (j + 1) cap)) = W at hF ⊢
          have hFH := Lib.hid hF
          have hRW := Lib.hid hF.rdr
          clear hF hM t0 t1 t2 t3 t4 t5 tf0 tf1 tf2 tf3 tf4 tf5 k2 k2a y2 hN6 hS6 hw6
          obtain ⟨d0, d1, d2, g1, g2⟩ := hRW.out.cells
          by_cases hnx : j + 1 < l.length
          · have hat3 : Hid (At T q2 (44 :: (quoteT (ks[j + 1]'(by rw [hkl]; exact hnx)) ++ ((58 : UInt8) :: (valT l[j + 1] ++ (membT (l.drop (j + 2)) (ks.drop (j + 2)) false ++ 125 :: Y)))))) := Lib.hid (by
              have h5 := hat2H.out
              rw [hnextH.out j hnx, List.cons_append, List.append_assoc, List.cons_append, List.append_assoc] at h5
              exact h5)
            go_wp2_with (first
              | (go_at_call 37; refine (blanks_none hRW.out hat3.out hTH.out (NoB_cons (by decide))).mono ?_; rintro e w7 ⟨rfl, n7, rfl⟩)
              | (go_at_call 74; refine (take_yes (c := 44) rfl (by exact hRW.out) hat3.out hTH.out).mono ?_; rintro e w8 ⟨rfl, hw8⟩; have hM8 := Lib.hid ((hFH.out.drewN n7).went hw8); clear hw8))
            go_roundg (l.length - (j + 1))
            case measure => omega
            case rel => exact ⟨j + 1, q2 + 1, _, _, _, _, by omega, rfl, .inl ⟨rfl, hnx, Lib.hid hat3.out.tail⟩, hM8⟩
          · have hat3 : Hid (At T q2 (125 :: Y)) := Lib.hid (by
              have h5 := hat2H.out
              rw [List.drop_eq_nil_of_le (by omega), membT] at h5
              exact h5)
            go_wp2_with (first
              | (go_at_call 37; refine (blanks_none hRW.out hat3.out hTH.out (NoB_cons (by decide))).mono ?_; rintro e w7 ⟨rfl, n7, rfl⟩)
              | (go_at_call 74; refine (take_no (c := 44) (d := 125) rfl (by exact hRW.out) hat3.out hTH.out (by decide)).mono ?_; rintro e w8 ⟨rfl, n8, rfl⟩; have hM8 := hFH.out.drewN n7; have hM8 := hM8.drewN n8; rw [World.drewN_drewN] at hM8; have hM8 := Lib.hid hM8))
            go_roundg (l.length - (j + 1))
            case measure => omega
            case rel => exact ⟨j + 1, q2, _, _, _, _, by omega, rfl, .inr ⟨rfl, by omega, hat3⟩, hM8⟩
        · have hF := Mid.close (haggH.out (.slice ao n c) (.slice ao2 n2 c2) a b).symm (Mid.fill (o := j * 6) (v0 := .int .i64 nk) (v1 := .string nt) (v2 := .slice ao n c) (v3 := .slice ao2 n2 c2) (v4 := .int .i64 a) (v5 := .int .i64 b) (hM.out.setCur (.slice (some ⟨g, 0, none⟩) (j + 1) cap)) (by rw [hljH.out]; omega) (by omega))
          rw [← htakeH.out] at hF
          generalize (((((((w5.setCell ⟨nb, 2, none⟩ (.slice (some ⟨g, 0, none⟩) (j + 1) cap)).setCell ⟨g, j * 6, none⟩ (.int .i64 nk)).setCell ⟨g, j * 6 + 1, none⟩ (.string nt)).setCell ⟨g, j * 6 + 2, none⟩ (.slice ao n c)).setCell ⟨g, j * 6 + 3, none⟩ (.slice ao2 n2 c2)).setCell ⟨g, j * 6 + 4, none⟩ (.int .i64 a)).setCell ⟨g, j * 6 + 5, none⟩ (.int .i64 b)) = W at hF ⊢
          have hFH := Lib.hid hF
          have hRW := Lib.hid hF.rdr
          clear hF hM t0 t1 t2 t3 t4 t5 tf0 tf1 tf2 tf3 tf4 tf5 k2 k2a y2 hN6 hS6 hw6
          obtain ⟨d0, d1, d2, g1, g2⟩ := hRW.out.cells
          by_cases hnx : j + 1 < l.length
          · have hat3 : Hid (At T q2 (44 :: (quoteT (ks[j + 1]'(by rw [hkl]; exact hnx)) ++ ((58 : UInt8) :: (valT l[j + 1] ++ (membT (l.drop (j + 2)) (ks.drop (j + 2)) false ++ 125 :: Y)))))) := Lib.hid (by
              have h5 := hat2H.out
              rw [hnextH.out j hnx, List.cons_append, List.append_assoc, List.cons_append, List.append_assoc] at h5
              exact h5)
            go_wp2_with (first
              | (go_at_call 37; refine (blanks_none hRW.out hat3.out hTH.out (NoB_cons (by decide))).mono ?_; rintro e w7 ⟨rfl, n7, rfl⟩)
              | (go_at_call 74; refine (take_yes (c := 44) rfl (by exact hRW.out) hat3.out hTH.out).mono ?_; rintro e w8 ⟨rfl, hw8⟩; have hM8 := Lib.hid ((hFH.out.drewN n7).went hw8); clear hw8))
            go_roundg (l.length - (j + 1))
            case measure => omega
            case rel => exact ⟨j + 1, q2 + 1, _, _, _, _, by omega, rfl, .inl ⟨rfl, hnx, Lib.hid hat3.out.tail⟩, hM8⟩
          · have hat3 : Hid (At T q2 (125 :: Y)) := Lib.hid (by
              have h5 := hat2H.out
              rw [List.drop_eq_nil_of_le (by omega), membT] at h5
              exact h5)
            go_wp2_with (first
              | (go_at_call 37; refine (blanks_none hRW.out hat3.out hTH.out (NoB_cons (by decide))).mono ?_; rintro e w7 ⟨rfl, n7, rfl⟩)
              | (go_at_call 74; refine (take_no (c := 44) (d := 125) rfl (by exact hRW.out) hat3.out hTH.out (by decide)).mono ?_; rintro e w8 ⟨rfl, n8, rfl⟩; have hM8 := hFH.out.drewN n7; have hM8 := hM8.drewN n8; rw [World.drewN_drewN] at hM8; have hM8 := Lib.hid hM8))
            go_roundg (l.length - (j + 1))
            case measure => omega
            case rel => exact ⟨j + 1, q2, _, _, _, _, by omega, rfl, .inr ⟨rfl, by omega, hat3⟩, hM8⟩
        · have hF := Mid.close (haggH.out (.slice ao n c) (.slice ao2 n2 c2) a b).symm ((Mid.fill (o := j * 6) (v0 := .int .i64 nk) (v1 := .string nt) (v2 := .slice ao n c) (v3 := .slice ao2 n2 c2) (v4 := .int .i64 a) (v5 := .int .i64 b) hM.out (by rw [hljH.out]; omega) (by omega)).setCur (.slice (some ⟨g, 0, none⟩) (j + 1) cap))
          rw [← htakeH.out] at hF
          generalize (((((((w5.setCell ⟨g, j * 6, none⟩ (.int .i64 nk)).setCell ⟨g, j * 6 + 1, none⟩ (.string nt)).setCell ⟨g, j * 6 + 2, none⟩ (.slice ao n c)).setCell ⟨g, j * 6 + 3, none⟩ (.slice ao2 n2 c2)).setCell ⟨g, j * 6 + 4, none⟩ (.int .i64 a)).setCell ⟨g, j * 6 + 5, none⟩ (.int .i64 b)).setCell ⟨nb, 2, none⟩ (.slice (some ⟨g, 0, none⟩) (j + 1) cap)) = W at hF ⊢
          have hFH := Lib.hid hF
          have hRW := Lib.hid hF.rdr
          clear hF hM t0 t1 t2 t3 t4 t5 tf0 tf1 tf2 tf3 tf4 tf5 k2 k2a y2 hN6 hS6 hw6
          obtain ⟨d0, d1, d2, g1, g2⟩ := hRW.out.cells
          by_cases hnx : j + 1 < l.length
          · have hat3 : Hid (At T q2 (44 :: (quoteT (ks[j + 1]'(by rw [hkl]; exact hnx)) ++ ((58 : UInt8) :: (valT l[j + 1] ++ (membT (l.drop (j + 2)) (ks.drop (j + 2)) false ++ 125 :: Y)))))) := Lib.hid (by
              have h5 := hat2H.out
              rw [hnextH.out j hnx, List.cons_append, List.append_assoc, List.cons_append, List.append_assoc] at h5
              exact h5)
            go_wp2_with (first
              | (go_at_call 37; refine (blanks_none hRW.out hat3.out hTH.out (NoB_cons (by decide))).mono ?_; rintro e w7 ⟨rfl, n7, rfl⟩)
              | (go_at_call 74; refine (take_yes (c := 44) rfl (by exact hRW.out) hat3.out hTH.out).mono ?_; rintro e w8 ⟨rfl, hw8⟩; have hM8 := Lib.hid ((hFH.out.drewN n7).went hw8); clear hw8))
            go_roundg (l.length - (j + 1))
            case measure => omega
            case rel => exact ⟨j + 1, q2 + 1, _, _, _, _, by omega, rfl, .inl ⟨rfl, hnx, Lib.hid hat3.out.tail⟩, hM8⟩
          · have hat3 : Hid (At T q2 (125 :: Y)) := Lib.hid (by
              have h5 := hat2H.out
              rw [List.drop_eq_nil_of_le (by omega), membT] at h5
              exact h5)
            go_wp2_with (first
              | (go_at_call 37; refine (blanks_none hRW.out hat3.out hTH.out (NoB_cons (by decide))).mono ?_; rintro e w7 ⟨rfl, n7, rfl⟩)
              | (go_at_call 74; refine (take_no (c := 44) (d := 125) rfl (by exact hRW.out) hat3.out hTH.out (by decide)).mono ?_; rintro e w8 ⟨rfl, n8, rfl⟩; have hM8 := hFH.out.drewN n7; have hM8 := hM8.drewN n8; rw [World.drewN_drewN] at hM8; have hM8 := Lib.hid hM8))
            go_roundg (l.length - (j + 1))
            case measure => omega
            case rel => exact ⟨j + 1, q2, _, _, _, _, by omega, rfl, .inr ⟨rfl, by omega, hat3⟩, hM8⟩
        · have hF := Mid.close (haggH.out (.slice ao n c) (.slice ao2 n2 c2) a b).symm (Mid.fill (o := j * 6) (v0 := .int .i64 nk) (v1 := .string nt) (v2 := .slice ao n c) (v3 := .slice ao2 n2 c2) (v4 := .int .i64 a) (v5 := .int .i64 b) (hM.out.setCur (.slice (some ⟨g, 0, none⟩) (j + 1) cap)) (by rw [hljH.out]; omega) (by omega))
          rw [← htakeH.out] at hF
          generalize (((((((w5.setCell ⟨nb, 2, none⟩ (.slice (some ⟨g, 0, none⟩) (j + 1) cap)).setCell ⟨g, j * 6, none⟩ (.int .i64 nk)).setCell ⟨g, j * 6 + 1, none⟩ (.string nt)).setCell ⟨g, j * 6 + 2, none⟩ (.slice ao n c)).setCell ⟨g, j * 6 + 3, none⟩ (.slice ao2 n2 c2)).setCell ⟨g, j * 6 + 4, none⟩ (.int .i64 a)).setCell ⟨g, j * 6 + 5, none⟩ (.int .i64 b)) = W at hF ⊢
          have hFH := Lib.hid hF
          have hRW := Lib.hid hF.rdr
          clear hF hM t0 t1 t2 t3 t4 t5 tf0 tf1 tf2 tf3 tf4 tf5 k2 k2a y2 hN6 hS6 hw6
          obtain ⟨d0, d1, d2, g1, g2⟩ := hRW.out.cells
          by_cases hnx : j + 1 < l.length
          · have hat3 : Hid (At T q2 (44 :: (quoteT (ks[j + 1]'(by rw [hkl]; exact hnx)) ++ ((58 : UInt8) :: (valT l[j + 1] ++ (membT (l.drop (j + 2)) (ks.drop (j + 2)) false ++ 125 :: Y)))))) := Lib.hid (by
              have h5 := hat2H.out
              rw [hnextH.out j hnx, List.cons_append, List.append_assoc, List.cons_append, List.append_assoc] at h5
              exact h5)
            go_wp2_with (first
              | (go_at_call 37; refine (blanks_none hRW.out hat3.out hTH.out (NoB_cons (by decide))).mono ?_; rintro e w7 ⟨rfl, n7, rfl⟩)
              | (go_at_call 74; refine (take_yes (c := 44) rfl (by exact hRW.out) hat3.out hTH.out).mono ?_; rintro e w8 ⟨rfl, hw8⟩; have hM8 := Lib.hid ((hFH.out.drewN n7).went hw8); clear hw8))
            go_roundg (l.length - (j + 1))
            case measure => omega
            case rel => exact ⟨j + 1, q2 + 1, _, _, _, _, by omega, rfl, .inl ⟨rfl, hnx, Lib.hid hat3.out.tail⟩, hM8⟩
          · have hat3 : Hid (At T q2 (125 :: Y)) := Lib.hid (by
              have h5 := hat2H.out
              rw [List.drop_eq_nil_of_le (by omega), membT] at h5
              exact h5)
            go_wp2_with (first
              | (go_at_call 37; refine (blanks_none hRW.out hat3.out hTH.out (NoB_cons (by decide))).mono ?_; rintro e w7 ⟨rfl, n7, rfl⟩)
              | (go_at_call 74; refine (take_no (c := 44) (d := 125) rfl (by exact hRW.out) hat3.out hTH.out (by decide)).mono ?_; rintro e w8 ⟨rfl, n8, rfl⟩; have hM8 := hFH.out.drewN n7; have hM8 := hM8.drewN n8; rw [World.drewN_drewN] at hM8; have hM8 := Lib.hid hM8))
            go_roundg (l.length - (j + 1))
            case measure => omega
            case rel => exact ⟨j + 1, q2, _, _, _, _, by omega, rfl, .inr ⟨rfl, by omega, hat3⟩, hM8⟩
        · have hF := Mid.close (haggH.out (.slice ao n c) (.slice ao2 n2 c2) a b).symm ((Mid.fill (o := j * 6) (v0 := .int .i64 nk) (v1 := .string nt) (v2 := .slice ao n c) (v3 := .slice ao2 n2 c2) (v4 := .int .i64 a) (v5 := .int .i64 b) hM.out (by rw [hljH.out]; omega) (by omega)).setCur (.slice (some ⟨g, 0, none⟩) (j + 1) cap))
          rw [← htakeH.out] at hF
          generalize (((((((w5.setCell ⟨g, j * 6, none⟩ (.int .i64 nk)).setCell ⟨g, j * 6 + 1, none⟩ (.string nt)).setCell ⟨g, j * 6 + 2, none⟩ (.slice ao n c)).setCell ⟨g, j * 6 + 3, none⟩ (.slice ao2 n2 c2)).setCell ⟨g, j * 6 + 4, none⟩ (.int .i64 a)).setCell ⟨g, j * 6 + 5, none⟩ (.int .i64 b)).setCell ⟨nb, 2, none⟩ (.slice (some ⟨g, 0, none⟩) (j + 1) cap)) = W at hF ⊢
          have hFH := Lib.hid hF
          have hRW := Lib.hid hF.rdr
          clear hF hM t0 t1 t2 t3 t4 t5 tf0 tf1 tf2 tf3 tf4 tf5 k2 k2a y2 hN6 hS6 hw6
          obtain ⟨d0, d1, d2, g1, g2⟩ := hRW.out.cells
          by_cases hnx : j + 1 < l.length
          · have hat3 : Hid (At T q2 (44 :: (quoteT (ks[j + 1]'(by rw [hkl]; exact hnx)) ++ ((58 : UInt8) :: (valT l[j + 1] ++ (membT (l.drop (j + 2)) (ks.drop (j + 2)) false ++ 125 :: Y)))))) := Lib.hid (by
              have h5 := hat2H.out
              rw [hnextH.out j hnx, List.cons_append, List.append_assoc, List.cons_append, List.append_assoc] at h5
              exact h5)
            go_wp2_with (first
              | (go_at_call 37; refine (blanks_none hRW.out hat3.out hTH.out (NoB_cons (by decide))).mono ?_; rintro e w7 ⟨rfl, n7, rfl⟩)
              | (go_at_call 74; refine (take_yes (c := 44) rfl (by exact hRW.out) hat3.out hTH.out).mono ?_; rintro e w8 ⟨rfl, hw8⟩; have hM8 := Lib.hid ((hFH.out.drewN n7).went hw8); clear hw8))
            go_roundg (l.length - (j + 1))
            case measure => omega
            case rel => exact ⟨j + 1, q2 + 1, _, _, _, _, by omega, rfl, .inl ⟨rfl, hnx, Lib.hid hat3.out.tail⟩, hM8⟩
          · have hat3 : Hid (At T q2 (125 :: Y)) := Lib.hid (by
              have h5 := hat2H.out
              rw [List.drop_eq_nil_of_le (by omega), membT] at h5
              exact h5)
            go_wp2_with (first
              | (go_at_call 37; refine (blanks_none hRW.out hat3.out hTH.out (NoB_cons (by decide))).mono ?_; rintro e w7 ⟨rfl, n7, rfl⟩)
              | (go_at_call 74; refine (take_no (c := 44) (d := 125) rfl (by exact hRW.out) hat3.out hTH.out (by decide)).mono ?_; rintro e w8 ⟨rfl, n8, rfl⟩; have hM8 := hFH.out.drewN n7; have hM8 := hM8.drewN n8; rw [World.drewN_drewN] at hM8; have hM8 := Lib.hid hM8))
            go_roundg (l.length - (j + 1))
            case measure => omega
            case rel => exact ⟨j + 1, q2, _, _, _, _, by omega, rfl, .inr ⟨rfl, by omega, hat3⟩, hM8⟩
        · have hF := Mid.close (haggH.out (.slice ao n c) (.slice ao2 n2 c2) a b).symm (Mid.fill (o := j * 6) (v0 := .int .i64 nk) (v1 := .string nt) (v2 := .slice ao n c) (v3 := .slice ao2 n2 c2) (v4 := .int .i64 a) (v5 := .int .i64 b) (hM.out.setCur (.slice (some ⟨g, 0, none⟩) (j + 1) cap)) (by rw [hljH.out]; omega) (by omega))
          rw [← htakeH.out] at hF
          generalize (((((((w5.setCell ⟨nb, 2, none⟩ (.slice (some ⟨g, 0, none⟩) (j + 1) cap)).setCell ⟨g, j * 6, none⟩ (.int .i64 nk)).setCell ⟨g, j * 6 + 1, none⟩ (.string nt)).setCell ⟨g, j * 6 + 2, none⟩ (.slice ao n c)).setCell ⟨g, j * 6 + 3, none⟩ (.slice ao2 n2 c2)).setCell ⟨g, j * 6 + 4, none⟩ (.int .i64 a)).setCell ⟨g, j * 6 + 5, none⟩ (.int .i64 b)) = W at hF ⊢
          have hFH := Lib.hid hF
          have hRW := Lib.hid hF.rdr
          clear hF hM t0 t1 t2 t3 t4 t5 tf0 tf1 tf2 tf3 tf4 tf5 k2 k2a y2 hN6 hS6 hw6
          obtain ⟨d0, d1, d2, g1, g2⟩ := hRW.out.cells
          by_cases hnx : j + 1 < l.length
          · have hat3 : Hid (At T q2 (44 :: (quoteT (ks[j + 1]'(by rw [hkl]; exact hnx)) ++ ((58 : UInt8) :: (valT l[j + 1] ++ (membT (l.drop (j + 2)) (ks.drop (j + 2)) false ++ 125 :: Y)))))) := Lib.hid (by
              have h5 := hat2H.out
              rw [hnextH.out j hnx, List.cons_append, List.append_assoc, List.cons_append, List.append_assoc] at h5
              exact h5)
            go_wp2_with (first
              | (go_at_call 37; refine (blanks_none hRW.out hat3.out hTH.out (NoB_cons (by decide))).mono ?_; rintro e w7 ⟨rfl, n7, rfl⟩)
              | (go_at_call 74; refine (take_yes (c := 44) rfl (by exact hRW.out) hat3.out hTH.out).mono ?_; rintro e w8 ⟨rfl, hw8⟩; have hM8 := Lib.hid ((hFH.out.drewN n7).went hw8); clear hw8))
            go_roundg (l.length - (j + 1))
            case measure => omega
            case rel => exact ⟨j + 1, q2 + 1, _, _, _, _, by omega, rfl, .inl ⟨rfl, hnx, Lib.hid hat3.out.tail⟩, hM8⟩
          · have hat3 : Hid (At T q2 (125 :: Y)) := Lib.hid (by
              have h5 := hat2H.out
              rw [List.drop_eq_nil_of_le (by omega), membT] at h5
              exact h5)
            go_wp2_with (first
              | (go_at_call 37; refine (blanks_none hRW.out hat3.out hTH.out (NoB_cons (by decide))).mono ?_; rintro e w7 ⟨rfl, n7, rfl⟩)
              | (go_at_call 74; refine (take_no (c := 44) (d := 125) rfl (by exact hRW.out) hat3.out hTH.out (by decide)).mono ?_; rintro e w8 ⟨rfl, n8, rfl⟩; have hM8 := hFH.out.drewN n7; have hM8 := hM8.drewN n8; rw [World.drewN_drewN] at hM8; have hM8 := Lib.hid hM8))
            go_roundg (l.length - (j + 1))
            case measure => omega
            case rel => exact ⟨j + 1, q2, _, _, _, _, by omega, rfl, .inr ⟨rfl, by omega, hat3⟩, hM8⟩
      · have hM := Lib.hid hKey.out
        rw [← hktakeH.out] at hM
        generalize w4.setCell ⟨nb, 3, none⟩ (.slice (some ⟨gk, 0, none⟩) (j + 1) capk) = W4 at hM ⊢
        clear hKey k3 y3
        have hM := Lib.hid hM
        go_wp2_with (first
          | (go_at_call 37; refine (blanks_none hM.out.rdr hcolH.out hTH.out (NoB_cons (by decide))).mono ?_; rintro e w7 ⟨rfl, n7, rfl⟩)
          | (go_at_call 74; refine (take_yes (c := 58) rfl (by exact hM.out.rdr) hcolH.out hTH.out).mono ?_; rintro e w9 ⟨rfl, hw9⟩; have hM := Lib.hid ((hM.out.drewN n7).went hw9); clear hw9))
        have k2 : w9.cell? ⟨nb, 2, none⟩ = some (.slice lo j lc) := cells_of hM.out.blk 2
        have y2 : w9.frozen? ⟨nb, 2, none⟩ = false := free_of hM.out.blk 2
        have k2a := fun o => cells_alloc hM.out.blk o 2
        simp only [List.getElem?_toArray, List.getElem?_cons_zero, List.getElem?_cons_succ] at k2a
        have hM := Lib.hid hM.out.drew
        have hrbw : rb < w9.heap.size := hM.out.rdr.lt
        go_region_law (first
          | (refine step_append_lies _ rfl (.tmp 48) (.tmp 54) 46 rfl w0.heap.size 48 i0 (.agg #[.int .i64 0, .string ⟨#[]⟩, .slice none 0 0, .slice none 0 0, .int .i64 0, .int .i64 0]) 6 88 Tryz.underlying46 hi hz0 hz1 hz2 rfl (by omega) (.slice lo j lc) j (xs ++ []) (by simp [Act.eval, Act.put]) (by exact (hM.out.alloc _).rows) ⟨w9.heap.size, 0, none⟩ 1 1 zeroN (by simp [Act.eval, Act.put]) rfl (World.news_of_block (by exact heap_alloc_new _ _)) hne1.out (by omega) (by unfold maxLen; omega) (by omega) (by have := hM.out.kp.size; simp at this ⊢; omega) _ rfl ?_; intro g cap w5 hown5 hgrow5 hat5 hlt5; have hM := Lib.hid (Mid.grow (hM.out.alloc _) hown5 hgrow5 (hat5.imp id fun h => Nat.le_of_eq h.symm)); clear hown5 hgrow5 hat5 hlt5; have k2 := cells_of hM.out.blk 2; have y2 := free_of hM.out.blk 2; have k2a := fun o => cells_alloc hM.out.blk o 2; simp only [List.getElem?_toArray, List.getElem?_cons_zero, List.getElem?_cons_succ] at k2 k2a; (try (obtain ⟨⟨t0, t1, t2, t3, t4, t5⟩, tf⟩ := own_tail (o := j * 6) (by have := hM.out.nodes.1; rw [hljH.out] at this; omega) hM.out.rows; have tf0 := tf (j * 6); have tf1 := tf (j * 6 + 1); have tf2 := tf (j * 6 + 2); have tf3 := tf (j * 6 + 3); have tf4 := tf (j * 6 + 4); have tf5 := tf (j * 6 + 5); clear tf; have hgnb : ¬ g = nb := (by have := (hM.out.rows.lt g rfl).1; have := hM.out.low.2.1; omega); have hnbg : ¬ nb = g := (fun e => hgnb e.symm))))
          | (refine step_append_lies _ rfl (.tmp 48) (.tmp 54) 46 rfl w0.heap.size 48 i0 (.agg #[.int .i64 0, .string ⟨#[]⟩, .slice none 0 0, .slice none 0 0, .int .i64 0, .int .i64 0]) 6 88 Tryz.underlying46 hi hz0 hz1 hz2 rfl (by omega) (.slice lo j lc) j (xs ++ []) (by simp [Act.eval, Act.put]) (by exact hM.out.rows) ⟨w9.heap.size, 0, none⟩ 1 1 zeroN (by simp [Act.eval, Act.put]) rfl (World.news_of_block (by exact hw6.2.at (by simp) (by show ¬ w9.heap.size = rb; omega) (heap_alloc_new _ _))) hne1.out (by omega) (by unfold maxLen; omega) (by omega) (by have := hM.out.kp.size; simp at this ⊢; omega) _ rfl ?_; intro g cap w5 hown5 hgrow5 hat5 hlt5; have hM := Lib.hid (Mid.grow hM.out hown5 hgrow5 (hat5.imp id fun h => Nat.le_of_eq h.symm)); clear hown5 hgrow5 hat5 hlt5; have k2 := cells_of hM.out.blk 2; have y2 := free_of hM.out.blk 2; have k2a := fun o => cells_alloc hM.out.blk o 2; simp only [List.getElem?_toArray, List.getElem?_cons_zero, List.getElem?_cons_succ] at k2 k2a; (try (obtain ⟨⟨t0, t1, t2, t3, t4, t5⟩, tf⟩ := own_tail (o := j * 6) (by have := hM.out.nodes.1; rw [hljH.out] at this; omega) hM.out.rows; have tf0 := tf (j * 6); have tf1 := tf (j * 6 + 1); have tf2 := tf (j * 6 + 2); have tf3 := tf (j * 6 + 3); have tf4 := tf (j * 6 + 4); have tf5 := tf (j * 6 + 5); clear tf; have hgnb : ¬ g = nb := (by have := (hM.out.rows.lt g rfl).1; have := hM.out.low.2.1; omega); have hnbg : ¬ nb = g := (fun e => hgnb e.symm))))
          | (refine step_append_lies _ rfl (.tmp 48) (.tmp 54) 46 rfl w0.heap.size 48 i0 (.agg #[.int .i64 0, .string ⟨#[]⟩, .slice none 0 0, .slice none 0 0, .int .i64 0, .int .i64 0]) 6 88 Tryz.underlying46 hi hz0 hz1 hz2 rfl (by omega) (.slice lo j lc) j (xs ++ []) (by simp [Act.eval, Act.put]) (by exact (hM.out.alloc _).rows) ⟨w6.heap.size, 0, none⟩ 1 1 zeroN (by simp [Act.eval, Act.put]) rfl (World.news_of_block (by exact heap_alloc_new _ _)) hne1.out (by omega) (by unfold maxLen; omega) (by omega) (by have := hM.out.kp.size; simp at this ⊢; omega) _ rfl ?_; intro g cap w5 hown5 hgrow5 hat5 hlt5; have hM := Lib.hid (Mid.grow (hM.out.alloc _) hown5 hgrow5 (hat5.imp id fun h => Nat.le_of_eq h.symm)); clear hown5 hgrow5 hat5 hlt5; have k2 := cells_of hM.out.blk 2; have y2 := free_of hM.out.blk 2; have k2a := fun o => cells_alloc hM.out.blk o 2; simp only [List.getElem?_toArray, List.getElem?_cons_zero, List.getElem?_cons_succ] at k2 k2a; (try (obtain ⟨⟨t0, t1, t2, t3, t4, t5⟩, tf⟩ := own_tail (o := j * 6) (by have := hM.out.nodes.1; rw [hljH.out] at this; omega) hM.out.rows; have tf0 := tf (j * 6); have tf1 := tf (j * 6 + 1); have tf2 := tf (j * 6 + 2); have tf3 := tf (j * 6 + 3); have tf4 := tf (j * 6 + 4); have tf5 := tf (j * 6 + 5); clear tf; have hgnb : ¬ g = nb := (by have := (hM.out.rows.lt g rfl).1; have := hM.out.low.2.1; omega); have hnbg : ¬ nb = g := (fun e => hgnb e.symm))))
          | (go_simp; go_at_call 36; rw [hwrH.out]; refine (hv3H.out _ (by first | exact hM.out.rdr | exact (hM.out.alloc _).rdr | exact (hM.out.setCur _).rdr)).mono ?_; rintro e w6 ⟨ao, n, c, ao2, n2, c2, a, b, S2, rfl, hN6, hS6, hw6⟩; (first | have hM := Lib.hid (Mid.read hM.out hw6 hN6 hS6) | have hM := Lib.hid (Mid.read (hM.out.alloc _) hw6 hN6 hS6) | have hM := Lib.hid (Mid.read (hM.out.setCur _) hw6 hN6 hS6)); have k2 := cells_of hM.out.blk 2; have y2 := free_of hM.out.blk 2; have k2a := fun o => cells_alloc hM.out.blk o 2; simp only [List.getElem?_toArray, List.getElem?_cons_zero, List.getElem?_cons_succ] at k2 k2a; (try (obtain ⟨⟨t0, t1, t2, t3, t4, t5⟩, tf⟩ := own_tail (o := j * 6) (by have := hM.out.nodes.1; rw [hljH.out] at this; omega) hM.out.rows; have tf0 := tf (j * 6); have tf1 := tf (j * 6 + 1); have tf2 := tf (j * 6 + 2); have tf3 := tf (j * 6 + 3); have tf4 := tf (j * 6 + 4); have tf5 := tf (j * 6 + 5); clear tf; have hgnb : ¬ g = nb := (by have := (hM.out.rows.lt g rfl).1; have := hM.out.low.2.1; omega); have hnbg : ¬ nb = g := (fun e => hgnb e.symm)))))
        · have hF := Mid.close (haggH.out (.slice ao n c) (.slice ao2 n2 c2) a b).symm ((Mid.fill (o := j * 6) (v0 := .int .i64 nk) (v1 := .string nt) (v2 := .slice ao n c) (v3 := .slice ao2 n2 c2) (v4 := .int .i64 a) (v5 := .int .i64 b) hM.out (by rw [hljH.out]; omega) (by omega)).setCur (.slice (some ⟨g, 0, none⟩) (j + 1) cap))
          rw [← htakeH.out] at hF
          generalize (((((((w5.setCell ⟨g, j * 6, none⟩ (.int .i64 nk)).setCell ⟨g, j * 6 + 1, none⟩ (.string nt)).setCell ⟨g, j * 6 + 2, none⟩ (.slice ao n c)).setCell ⟨g, j * 6 + 3, none⟩ (.slice ao2 n2 c2)).setCell ⟨g, j * 6 + 4, none⟩ (.int .i64 a)).setCell ⟨g, j * 6 + 5, none⟩ (.int .i64 b)).setCell ⟨nb, 2, none⟩ (.slice (some ⟨g, 0, none⟩) (j + 1) cap)) = W at hF ⊢
          have hFH := Lib.hid hF
          have hRW := Lib.hid hF.rdr
          clear hF hM t0 t1 t2 t3 t4 t5 tf0 tf1 tf2 tf3 tf4 tf5 k2 k2a y2 hN6 hS6 hw6
          obtain ⟨d0, d1, d2, g1, g2⟩ := hRW.out.cells
          by_cases hnx : j + 1 < l.length
          · have hat3 : Hid (At T q2 (44 :: (quoteT (ks[j + 1]'(by rw [hkl]; exact hnx)) ++ ((58 : UInt8) :: (valT l[j + 1] ++ (membT (l.drop (j + 2)) (ks.drop (j + 2)) false ++ 125 :: Y)))))) := Lib.hid (by
              have h5 := hat2H.out
              rw [hnextH.out j hnx, List.cons_append, List.append_assoc, List.cons_append, List.append_assoc] at h5
              exact h5)
            go_wp2_with (first
              | (go_at_call 37; refine (blanks_none hRW.out hat3.out hTH.out (NoB_cons (by decide))).mono ?_; rintro e w7 ⟨rfl, n7, rfl⟩)
              | (go_at_call 74; refine (take_yes (c := 44) rfl (by exact hRW.out) hat3.out hTH.out).mono ?_; rintro e w8 ⟨rfl, hw8⟩; have hM8 := Lib.hid ((hFH.out.drewN n7).went hw8); clear hw8))
            go_roundg (l.length - (j + 1))
            case measure => omega
            case rel => exact ⟨j + 1, q2 + 1, _, _, _, _, by omega, rfl, .inl ⟨rfl, hnx, Lib.hid hat3.out.tail⟩, hM8⟩
          · have hat3 : Hid (At T q2 (125 :: Y)) := Lib.hid (by
              have h5 := hat2H.out
              rw [List.drop_eq_nil_of_le (by omega), membT] at h5
              exact h5)
            go_wp2_with (first
              | (go_at_call 37; refine (blanks_none hRW.out hat3.out hTH.out (NoB_cons (by decide))).mono ?_; rintro e w7 ⟨rfl, n7, rfl⟩)
              | (go_at_call 74; refine (take_no (c := 44) (d := 125) rfl (by exact hRW.out) hat3.out hTH.out (by decide)).mono ?_; rintro e w8 ⟨rfl, n8, rfl⟩; have hM8 := hFH.out.drewN n7; have hM8 := hM8.drewN n8; rw [World.drewN_drewN] at hM8; have hM8 := Lib.hid hM8))
            go_roundg (l.length - (j + 1))
            case measure => omega
            case rel => exact ⟨j + 1, q2, _, _, _, _, by omega, rfl, .inr ⟨rfl, by omega, hat3⟩, hM8⟩
        · have hF := Mid.close (haggH.out (.slice ao n c) (.slice ao2 n2 c2) a b).symm (Mid.fill (o := j * 6) (v0 := .int .i64 nk) (v1 := .string nt) (v2 := .slice ao n c) (v3 := .slice ao2 n2 c2) (v4 := .int .i64 a) (v5 := .int .i64 b) (hM.out.setCur (.slice (some ⟨g, 0, none⟩) (j + 1) cap)) (by rw [hljH.out]; omega) (by omega))
          rw [← htakeH.out] at hF
          generalize (((((((w5.setCell ⟨nb, 2, none⟩ (.slice (some ⟨g, 0, none⟩) (j + 1) cap)).setCell ⟨g, j * 6, none⟩ (.int .i64 nk)).setCell ⟨g, j * 6 + 1, none⟩ (.string nt)).setCell ⟨g, j * 6 + 2, none⟩ (.slice ao n c)).setCell ⟨g, j * 6 + 3, none⟩ (.slice ao2 n2 c2)).setCell ⟨g, j * 6 + 4, none⟩ (.int .i64 a)).setCell ⟨g, j * 6 + 5, none⟩ (.int .i64 b)) = W at hF ⊢
          have hFH := Lib.hid hF
          have hRW := Lib.hid hF.rdr
          clear hF hM t0 t1 t2 t3 t4 t5 tf0 tf1 tf2 tf3 tf4 tf5 k2 k2a y2 hN6 hS6 hw6
          obtain ⟨d0, d1, d2, g1, g2⟩ := hRW.out.cells
          by_cases hnx : j + 1 < l.length
          · have hat3 : Hid (At T q2 (44 :: (quoteT (ks[j + 1]'(by rw [hkl]; exact hnx)) ++ ((58 : UInt8) :: (valT l[j + 1] ++ (membT (l.drop (j + 2)) (ks.drop (j + 2)) false ++ 125 :: Y)))))) := Lib.hid (by
              have h5 := hat2H.out
              rw [hnextH.out j hnx, List.cons_append, List.append_assoc, List.cons_append, List.append_assoc] at h5
              exact h5)
            go_wp2_with (first
              | (go_at_call 37; refine (blanks_none hRW.out hat3.out hTH.out (NoB_cons (by decide))).mono ?_; rintro e w7 ⟨rfl, n7, rfl⟩)
              | (go_at_call 74; refine (take_yes (c := 44) rfl (by exact hRW.out) hat3.out hTH.out).mono ?_; rintro e w8 ⟨rfl, hw8⟩; have hM8 := Lib.hid ((hFH.out.drewN n7).went hw8); clear hw8))
            go_roundg (l.length - (j + 1))
            case measure => omega
            case rel => exact ⟨j + 1, q2 + 1, _, _, _, _, by omega, rfl, .inl ⟨rfl, hnx, Lib.hid hat3.out.tail⟩, hM8⟩
          · have hat3 : Hid (At T q2 (125 :: Y)) := Lib.hid (by
              have h5 := hat2H.out
              rw [List.drop_eq_nil_of_le (by omega), membT] at h5
              exact h5)
            go_wp2_with (first
              | (go_at_call 37; refine (blanks_none hRW.out hat3.out hTH.out (NoB_cons (by decide))).mono ?_; rintro e w7 ⟨rfl, n7, rfl⟩)
              | (go_at_call 74; refine (take_no (c := 44) (d := 125) rfl (by exact hRW.out) hat3.out hTH.out (by decide)).mono ?_; rintro e w8 ⟨rfl, n8, rfl⟩; have hM8 := hFH.out.drewN n7; have hM8 := hM8.drewN n8; rw [World.drewN_drewN] at hM8; have hM8 := Lib.hid hM8))
            go_roundg (l.length - (j + 1))
            case measure => omega
            case rel => exact ⟨j + 1, q2, _, _, _, _, by omega, rfl, .inr ⟨rfl, by omega, hat3⟩, hM8⟩
        · have hF := Mid.close (haggH.out (.slice ao n c) (.slice ao2 n2 c2) a b).symm ((Mid.fill (o := j * 6) (v0 := .int .i64 nk) (v1 := .string nt) (v2 := .slice ao n c) (v3 := .slice ao2 n2 c2) (v4 := .int .i64 a) (v5 := .int .i64 b) hM.out (by rw [hljH.out]; omega) (by omega)).setCur (.slice (some ⟨g, 0, none⟩) (j + 1) cap))
          rw [← htakeH.out] at hF
          generalize (((((((w5.setCell ⟨g, j * 6, none⟩ (.int .i64 nk)).setCell ⟨g, j * 6 + 1, none⟩ (.string nt)).setCell ⟨g, j * 6 + 2, none⟩ (.slice ao n c)).setCell ⟨g, j * 6 + 3, none⟩ (.slice ao2 n2 c2)).setCell ⟨g, j * 6 + 4, none⟩ (.int .i64 a)).setCell ⟨g, j * 6 + 5, none⟩ (.int .i64 b)).setCell ⟨nb, 2, none⟩ (.slice (some ⟨g, 0, none⟩) (j + 1) cap)) = W at hF ⊢
          have hFH := Lib.hid hF
          have hRW := Lib.hid hF.rdr
          clear hF hM t0 t1 t2 t3 t4 t5 tf0 tf1 tf2 tf3 tf4 tf5 k2 k2a y2 hN6 hS6 hw6
          obtain ⟨d0, d1, d2, g1, g2⟩ := hRW.out.cells
          by_cases hnx : j + 1 < l.length
          · have hat3 : Hid (At T q2 (44 :: (quoteT (ks[j + 1]'(by rw [hkl]; exact hnx)) ++ ((58 : UInt8) :: (valT l[j + 1] ++ (membT (l.drop (j + 2)) (ks.drop (j + 2)) false ++ 125 :: Y)))))) := Lib.hid (by
              have h5 := hat2H.out
              rw [hnextH.out j hnx, List.cons_append, List.append_assoc, List.cons_append, List.append_assoc] at h5
              exact h5)
            go_wp2_with (first
              | (go_at_call 37; refine (blanks_none hRW.out hat3.out hTH.out (NoB_cons (by decide))).mono ?_; rintro e w7 ⟨rfl, n7, rfl⟩)
              | (go_at_call 74; refine (take_yes (c := 44) rfl (by exact hRW.out) hat3.out hTH.out).mono ?_; rintro e w8 ⟨rfl, hw8⟩; have hM8 := Lib.hid ((hFH.out.drewN n7).went hw8); clear hw8))
            go_roundg (l.length - (j + 1))
            case measure => omega
            case rel => exact ⟨j + 1, q2 + 1, _, _, _, _, by omega, rfl, .inl ⟨rfl, hnx, Lib.hid hat3.out.tail⟩, hM8⟩
          · have hat3 : Hid (At T q2 (125 :: Y)) := Lib.hid (by
              have h5 := hat2H.out
              rw [List.drop_eq_nil_of_le (by omega), membT] at h5
              exact h5)
            go_wp2_with (first
              | (go_at_call 37; refine (blanks_none hRW.out hat3.out hTH.out (NoB_cons (by decide))).mono ?_; rintro e w7 ⟨rfl, n7, rfl⟩)
              | (go_at_call 74; refine (take_no (c := 44) (d := 125) rfl (by exact hRW.out) hat3.out hTH.out (by decide)).mono ?_; rintro e w8 ⟨rfl, n8, rfl⟩; have hM8 := hFH.out.drewN n7; have hM8 := hM8.drewN n8; rw [World.drewN_drewN] at hM8; have hM8 := Lib.hid hM8))
            go_roundg (l.length - (j + 1))
            case measure => omega
            case rel => exact ⟨j + 1, q2, _, _, _, _, by omega, rfl, .inr ⟨rfl, by omega, hat3⟩, hM8⟩
        · have hF := Mid.close (haggH.out (.slice ao n c) (.slice ao2 n2 c2) a b).symm (Mid.fill (o := j * 6) (v0 := .int .i64 nk) (v1 := .string nt) (v2 := .slice ao n c) (v3 := .slice ao2 n2 c2) (v4 := .int .i64 a) (v5 := .int .i64 b) (hM.out.setCur (.slice (some ⟨g, 0, none⟩) (j + 1) cap)) (by rw [hljH.out]; omega) (by omega))
          rw [← htakeH.out] at hF
          generalize (((((((w5.setCell ⟨nb, 2, none⟩ (.slice (some ⟨g, 0, none⟩) (j + 1) cap)).setCell ⟨g, j * 6, none⟩ (.int .i64 nk)).setCell ⟨g, j * 6 + 1, none⟩ (.string nt)).setCell ⟨g, j * 6 + 2, none⟩ (.slice ao n c)).setCell ⟨g, j * 6 + 3, none⟩ (.slice ao2 n2 c2)).setCell ⟨g, j * 6 + 4, none⟩ (.int .i64 a)).setCell ⟨g, j * 6 + 5, none⟩ (.int .i64 b)) = W at hF ⊢
          have hFH := Lib.hid hF
          have hRW := Lib.hid hF.rdr
          clear hF hM t0 t1 t2 t3 t4 t5 tf0 tf1 tf2 tf3 tf4 tf5 k2 k2a y2 hN6 hS6 hw6
          obtain ⟨d0, d1, d2, g1, g2⟩ := hRW.out.cells
          by_cases hnx : j + 1 < l.length
          · have hat3 : Hid (At T q2 (44 :: (quoteT (ks[j + 1]'(by rw [hkl]; exact hnx)) ++ ((58 : UInt8) :: (valT l[j + 1] ++ (membT (l.drop (j + 2)) (ks.drop (j + 2)) false ++ 125 :: Y)))))) := Lib.hid (by
              have h5 := hat2H.out
              rw [hnextH.out j hnx, List.cons_append, List.append_assoc, List.cons_append, List.append_assoc] at h5
              exact h5)
            go_wp2_with (first
              | (go_at_call 37; refine (blanks_none hRW.out hat3.out hTH.out (NoB_cons (by decide))).mono ?_; rintro e w7 ⟨rfl, n7, rfl⟩)
              | (go_at_call 74; refine (take_yes (c := 44) rfl (by exact hRW.out) hat3.out hTH.out).mono ?_; rintro e w8 ⟨rfl, hw8⟩; have hM8 := Lib.hid ((hFH.out.drewN n7).went hw8); clear hw8))
            go_roundg (l.length - (j + 1))
            case measure => omega
            case rel => exact ⟨j + 1, q2 + 1, _, _, _, _, by omega, rfl, .inl ⟨rfl, hnx, Lib.hid hat3.out.tail⟩, hM8⟩
          · have hat3 : Hid (At T q2 (125 :: Y)) := Lib.hid (by
              have h5 := hat2H.out
              rw [List.drop_eq_nil_of_le (by omega), membT] at h5
              exact h5)
            go_wp2_with (first
              | (go_at_call 37; refine (blanks_none hRW.out hat3.out hTH.out (NoB_cons (by decide))).mono ?_; rintro e w7 ⟨rfl, n7, rfl⟩)
              | (go_at_call 74; refine (take_no (c := 44) (d := 125) rfl (by exact hRW.out) hat3.out hTH.out (by decide)).mono ?_; rintro e w8 ⟨rfl, n8, rfl⟩; have hM8 := hFH.out.drewN n7; have hM8 := hM8.drewN n8; rw [World.drewN_drewN] at hM8; have hM8 := Lib.hid hM8))
            go_roundg (l.length - (j + 1))
            case measure => omega
            case rel => exact ⟨j + 1, q2, _, _, _, _, by omega, rfl, .inr ⟨rfl, by omega, hat3⟩, hM8⟩
        · have hF := Mid.close (haggH.out (.slice ao n c) (.slice ao2 n2 c2) a b).symm ((Mid.fill (o := j * 6) (v0 := .int .i64 nk) (v1 := .string nt) (v2 := .slice ao n c) (v3 := .slice ao2 n2 c2) (v4 := .int .i64 a) (v5 := .int .i64 b) hM.out (by rw [hljH.out]; omega) (by omega)).setCur (.slice (some ⟨g, 0, none⟩) (j + 1) cap))
          rw [← htakeH.out] at hF
          generalize (((((((w5.setCell ⟨g, j * 6, none⟩ (.int .i64 nk)).setCell ⟨g, j * 6 + 1, none⟩ (.string nt)).setCell ⟨g, j * 6 + 2, none⟩ (.slice ao n c)).setCell ⟨g, j * 6 + 3, none⟩ (.slice ao2 n2 c2)).setCell ⟨g, j * 6 + 4, none⟩ (.int .i64 a)).setCell ⟨g, j * 6 + 5, none⟩ (.int .i64 b)).setCell ⟨nb, 2, none⟩ (.slice (some ⟨g, 0, none⟩) (j + 1) cap)) = W at hF ⊢
          have hFH := Lib.hid hF
          have hRW := Lib.hid hF.rdr
          clear hF hM t0 t1 t2 t3 t4 t5 tf0 tf1 tf2 tf3 tf4 tf5 k2 k2a y2 hN6 hS6 hw6
          obtain ⟨d0, d1, d2, g1, g2⟩ := hRW.out.cells
          by_cases hnx : j + 1 < l.length
          · have hat3 : Hid (At T q2 (44 :: (quoteT (ks[j + 1]'(by rw [hkl]; exact hnx)) ++ ((58 : UInt8) :: (valT l[j + 1] ++ (membT (l.drop (j + 2)) (ks.drop (j + 2)) false ++ 125 :: Y)))))) := Lib.hid (by
              have h5 := hat2H.out
              rw [hnextH.out j hnx, List.cons_append, List.append_assoc, List.cons_append, List.append_assoc] at h5
              exact h5)
            go_wp2_with (first
              | (go_at_call 37; refine (blanks_none hRW.out hat3.out hTH.out (NoB_cons (by decide))).mono ?_; rintro e w7 ⟨rfl, n7, rfl⟩)
              | (go_at_call 74; refine (take_yes (c := 44) rfl (by exact hRW.out) hat3.out hTH.out).mono ?_; rintro e w8 ⟨rfl, hw8⟩; have hM8 := Lib.hid ((hFH.out.drewN n7).went hw8); clear hw8))
            go_roundg (l.length - (j + 1))
            case measure => omega
            case rel => exact ⟨j + 1, q2 + 1, _, _, _, _, by omega, rfl, .inl ⟨rfl, hnx, Lib.hid hat3.out.tail⟩, hM8⟩
          · have hat3 : Hid (At T q2 (125 :: Y)) := Lib.hid (by
              have h5 := hat2H.out
              rw [List.drop_eq_nil_of_le (by omega), membT] at h5
              exact h5)
            go_wp2_with (first
              | (go_at_call 37; refine (blanks_none hRW.out hat3.out hTH.out (NoB_cons (by decide))).mono ?_; rintro e w7 ⟨rfl, n7, rfl⟩)
              | (go_at_call 74; refine (take_no (c := 44) (d := 125) rfl (by exact hRW.out) hat3.out hTH.out (by decide)).mono ?_; rintro e w8 ⟨rfl, n8, rfl⟩; have hM8 := hFH.out.drewN n7; have hM8 := hM8.drewN n8; rw [World.drewN_drewN] at hM8; have hM8 := Lib.hid hM8))
            go_roundg (l.length - (j + 1))
            case measure => omega
            case rel => exact ⟨j + 1, q2, _, _, _, _, by omega, rfl, .inr ⟨rfl, by omega, hat3⟩, hM8⟩
        · have hF := Mid.close (haggH.out (.slice ao n c) (.slice ao2 n2 c2) a b).symm (Mid.fill (o := j * 6) (v0 := .int .i64 nk) (v1 := .string nt) (v2 := .slice ao n c) (v3 := .slice ao2 n2 c2) (v4 := .int .i64 a) (v5 := .int .i64 b) (hM.out.setCur (.slice (some ⟨g, 0, none⟩) (j + 1) cap)) (by rw [hljH.out]; omega) (by omega))
          rw [← htakeH.out] at hF
          generalize (((((((w5.setCell ⟨nb, 2, none⟩ (.slice (some ⟨g, 0, none⟩) (j + 1) cap)).setCell ⟨g, j * 6, none⟩ (.int .i64 nk)).setCell ⟨g, j * 6 + 1, none⟩ (.string nt)).setCell ⟨g, j * 6 + 2, none⟩ (.slice ao n c)).setCell ⟨g, j * 6 + 3, none⟩ (.slice ao2 n2 c2)).setCell ⟨g, j * 6 + 4, none⟩ (.int .i64 a)).setCell ⟨g, j * 6 + 5, none⟩ (.int .i64 b)) = W at hF ⊢
          have hFH := Lib.hid hF
          have hRW := Lib.hid hF.rdr
          clear hF hM t0 t1 t2 t3 t4 t5 tf0 tf1 tf2 tf3 tf4 tf5 k2 k2a y2 hN6 hS6 hw6
          obtain ⟨d0, d1, d2, g1, g2⟩ := hRW.out.cells
          by_cases hnx : j + 1 < l.length
          · have hat3 : Hid (At T q2 (44 :: (quoteT (ks[j + 1]'(by rw [hkl]; exact hnx)) ++ ((58 : UInt8) :: (valT l[j + 1] ++ (membT (l.drop (j + 2)) (ks.drop (j + 2)) false ++ 125 :: Y)))))) := Lib.hid (by
              have h5 := hat2H.out
              rw [hnextH.out j hnx, List.cons_append, List.append_assoc, List.cons_append, List.append_assoc] at h5
              exact h5)
            go_wp2_with (first
              | (go_at_call 37; refine (blanks_none hRW.out hat3.out hTH.out (NoB_cons (by decide))).mono ?_; rintro e w7 ⟨rfl, n7, rfl⟩)
              | (go_at_call 74; refine (take_yes (c := 44) rfl (by exact hRW.out) hat3.out hTH.out).mono ?_; rintro e w8 ⟨rfl, hw8⟩; have hM8 := Lib.hid ((hFH.out.drewN n7).went hw8); clear hw8))
            go_roundg (l.length - (j + 1))
            case measure => omega
            case rel => exact ⟨j + 1, q2 + 1, _, _, _, _, by omega, rfl, .inl ⟨rfl, hnx, Lib.hid hat3.out.tail⟩, hM8⟩
          · have hat3 : Hid (At T q2 (125 :: Y)) := Lib.hid (by
              have h5 := hat2H.out
              rw [List.drop_eq_nil_of_le (by omega), membT] at h5
              exact h5)
            go_wp2_with (first
              | (go_at_call 37; refine (blanks_none hRW.out hat3.out hTH.out (NoB_cons (by decide))).mono ?_; rintro e w7 ⟨rfl, n7, rfl⟩)
              | (go_at_call 74; refine (take_no (c := 44) (d := 125) rfl (by exact hRW.out) hat3.out hTH.out (by decide)).mono ?_; rintro e w8 ⟨rfl, n8, rfl⟩; have hM8 := hFH.out.drewN n7; have hM8 := hM8.drewN n8; rw [World.drewN_drewN] at hM8; have hM8 := Lib.hid hM8))
            go_roundg (l.length - (j + 1))
            case measure => omega
            case rel => exact ⟨j + 1, q2, _, _, _, _, by omega, rfl, .inr ⟨rfl, by omega, hat3⟩, hM8⟩
        · have hF := Mid.close (haggH.out (.slice ao n c) (.slice ao2 n2 c2) a b).symm ((Mid.fill (o := j * 6) (v0 := .int .i64 nk) (v1 := .string nt) (v2 := .slice ao n c) (v3 := .slice ao2 n2 c2) (v4 := .int .i64 a) (v5 := .int .i64 b) hM.out (by rw [hljH.out]; omega) (by omega)).setCur (.slice (some ⟨g, 0, none⟩) (j + 1) cap))
          rw [← htakeH.out] at hF
          generalize (((((((w5.setCell ⟨g, j * 6, none⟩ (.int .i64 nk)).setCell ⟨g, j * 6 + 1, none⟩ (.string nt)).setCell ⟨g, j * 6 + 2, none⟩ (.slice ao n c)).setCell ⟨g, j * 6 + 3, none⟩ (.slice ao2 n2 c2)).setCell ⟨g, j * 6 + 4, none⟩ (.int .i64 a)).setCell ⟨g, j * 6 + 5, none⟩ (.int .i64 b)).setCell ⟨nb, 2, none⟩ (.slice (some ⟨g, 0, none⟩) (j + 1) cap)) = W at hF ⊢
          have hFH := Lib.hid hF
          have hRW := Lib.hid hF.rdr
          clear hF hM t0 t1 t2 t3 t4 t5 tf0 tf1 tf2 tf3 tf4 tf5 k2 k2a y2 hN6 hS6 hw6
          obtain ⟨d0, d1, d2, g1, g2⟩ := hRW.out.cells
          by_cases hnx : j + 1 < l.length
          · have hat3 : Hid (At T q2 (44 :: (quoteT (ks[j + 1]'(by rw [hkl]; exact hnx)) ++ ((58 : UInt8) :: (valT l[j + 1] ++ (membT (l.drop (j + 2)) (ks.drop (j + 2)) false ++ 125 :: Y)))))) := Lib.hid (by
              have h5 := hat2H.out
              rw [hnextH.out j hnx, List.cons_append, List.append_assoc, List.cons_append, List.append_assoc] at h5
              exact h5)
            go_wp2_with (first
              | (go_at_call 37; refine (blanks_none hRW.out hat3.out hTH.out (NoB_cons (by decide))).mono ?_; rintro e w7 ⟨rfl, n7, rfl⟩)
              | (go_at_call 74; refine (take_yes (c := 44) rfl (by exact hRW.out) hat3.out hTH.out).mono ?_; rintro e w8 ⟨rfl, hw8⟩; have hM8 := Lib.hid ((hFH.out.drewN n7).went hw8); clear hw8))
            go_roundg (l.length - (j + 1))
            case measure => omega
            case rel => exact ⟨j + 1, q2 + 1, _, _, _, _, by omega, rfl, .inl ⟨rfl, hnx, Lib.hid hat3.out.tail⟩, hM8⟩
          · have hat3 : Hid (At T q2 (125 :: Y)) := Lib.hid (by
              have h5 := hat2H.out
              rw [List.drop_eq_nil_of_le (by omega), membT] at h5
              exact h5)
            go_wp2_with (first
              | (go_at_call 37; refine (blanks_none hRW.out hat3.out hTH.out (NoB_cons (by decide))).mono ?_; rintro e w7 ⟨rfl, n7, rfl⟩)
              | (go_at_call 74; refine (take_no (c := 44) (d := 125) rfl (by exact hRW.out) hat3.out hTH.out (by decide)).mono ?_; rintro e w8 ⟨rfl, n8, rfl⟩; have hM8 := hFH.out.drewN n7; have hM8 := hM8.drewN n8; rw [World.drewN_drewN] at hM8; have hM8 := Lib.hid hM8))
            go_roundg (l.length - (j + 1))
            case measure => omega
            case rel => exact ⟨j + 1, q2, _, _, _, _, by omega, rfl, .inr ⟨rfl, by omega, hat3⟩, hM8⟩
        · have hF := Mid.close (haggH.out (.slice ao n c) (.slice ao2 n2 c2) a b).symm (Mid.fill (o := j * 6) (v0 := .int .i64 nk) (v1 := .string nt) (v2 := .slice ao n c) (v3 := .slice ao2 n2 c2) (v4 := .int .i64 a) (v5 := .int .i64 b) (hM.out.setCur (.slice (some ⟨g, 0, none⟩) (j + 1) cap)) (by rw [hljH.out]; omega) (by omega))
          rw [← htakeH.out] at hF
          generalize (((((((w5.setCell ⟨nb, 2, none⟩ (.slice (some ⟨g, 0, none⟩) (j + 1) cap)).setCell ⟨g, j * 6, none⟩ (.int .i64 nk)).setCell ⟨g, j * 6 + 1, none⟩ (.string nt)).setCell ⟨g, j * 6 + 2, none⟩ (.slice ao n c)).setCell ⟨g, j * 6 + 3, none⟩ (.slice ao2 n2 c2)).setCell ⟨g, j * 6 + 4, none⟩ (.int .i64 a)).setCell ⟨g, j * 6 + 5, none⟩ (.int .i64 b)) = W at hF ⊢
          have hFH := Lib.hid hF
          have hRW := Lib.hid hF.rdr
          clear hF hM t0 t1 t2 t3 t4 t5 tf0 tf1 tf2 tf3 tf4 tf5 k2 k2a y2 hN6 hS6 hw6
          obtain ⟨d0, d1, d2, g1, g2⟩ := hRW.out.cells
          by_cases hnx : j + 1 < l.length
          · have hat3 : Hid (At T q2 (44 :: (quoteT (ks[j + 1]'(by rw [hkl]; exact hnx)) ++ ((58 : UInt8) :: (valT l[j + 1] ++ (membT (l.drop (j + 2)) (ks.drop (j + 2)) false ++ 125 :: Y)))))) := Lib.hid (by
              have h5 := hat2H.out
              rw [hnextH.out j hnx, List.cons_append, List.append_assoc, List.cons_append, List.append_assoc] at h5
              exact h5)
            go_wp2_with (first
              | (go_at_call 37; refine (blanks_none hRW.out hat3.out hTH.out (NoB_cons (by decide))).mono ?_; rintro e w7 ⟨rfl, n7, rfl⟩)
              | (go_at_call 74; refine (take_yes (c := 44) rfl (by exact hRW.out) hat3.out hTH.out).mono ?_; rintro e w8 ⟨rfl, hw8⟩; have hM8 := Lib.hid ((hFH.out.drewN n7).went hw8); clear hw8))
            go_roundg (l.length - (j + 1))
            case measure => omega
            case rel => exact ⟨j + 1, q2 + 1, _, _, _, _, by omega, rfl, .inl ⟨rfl, hnx, Lib.hid hat3.out.tail⟩, hM8⟩
          · have hat3 : Hid (At T q2 (125 :: Y)) := Lib.hid (by
              have h5 := hat2H.out
              rw [List.drop_eq_nil_of_le (by omega), membT] at h5
              exact h5)
            go_wp2_with (first
              | (go_at_call 37; refine (blanks_none hRW.out hat3.out hTH.out (NoB_cons (by decide))).mono ?_; rintro e w7 ⟨rfl, n7, rfl⟩)
              | (go_at_call 74; refine (take_no (c := 44) (d := 125) rfl (by exact hRW.out) hat3.out hTH.out (by decide)).mono ?_; rintro e w8 ⟨rfl, n8, rfl⟩; have hM8 := hFH.out.drewN n7; have hM8 := hM8.drewN n8; rw [World.drewN_drewN] at hM8; have hM8 := Lib.hid hM8))
            go_roundg (l.length - (j + 1))
            case measure => omega
            case rel => exact ⟨j + 1, q2, _, _, _, _, by omega, rfl, .inr ⟨rfl, by omega, hat3⟩, hM8⟩
        · have hF := Mid.close (haggH.out (.slice ao n c) (.slice ao2 n2 c2) a b).symm ((Mid.fill (o := j * 6) (v0 := .int .i64 nk) (v1 := .string nt) (v2 := .slice ao n c) (v3 := .slice ao2 n2 c2) (v4 := .int .i64 a) (v5 := .int .i64 b) hM.out (by rw [hljH.out]; omega) (by omega)).setCur (.slice (some ⟨g, 0, none⟩) (j + 1) cap))
          rw [← htakeH.out] at hF
          generalize (((((((w5.setCell ⟨g, j * 6, none⟩ (.int .i64 nk)).setCell ⟨g, j * 6 + 1, none⟩ (.string nt)).setCell ⟨g, j * 6 + 2, none⟩ (.slice ao n c)).setCell ⟨g, j * 6 + 3, none⟩ (.slice ao2 n2 c2)).setCell ⟨g, j * 6 + 4, none⟩ (.int .i64 a)).setCell ⟨g, j * 6 + 5, none⟩ (.int .i64 b)).setCell ⟨nb, 2, none⟩ (.slice (some ⟨g, 0, none⟩) (j + 1) cap)) = W at hF ⊢
          have hFH := Lib.hid hF
          have hRW := Lib.hid hF.rdr
          clear hF hM t0 t1 t2 t3 t4 t5 tf0 tf1 tf2 tf3 tf4 tf5 k2 k2a y2 hN6 hS6 hw6
          obtain ⟨d0, d1, d2, g1, g2⟩ := hRW.out.cells
          by_cases hnx : j + 1 < l.length
          · have hat3 : Hid (At T q2 (44 :: (quoteT (ks[j + 1]'(by rw [hkl]; exact hnx)) ++ ((58 : UInt8) :: (valT l[j + 1] ++ (membT (l.drop (j + 2)) (ks.drop (j + 2)) false ++ 125 :: Y)))))) := Lib.hid (by
              have h5 := hat2H.out
              rw [hnextH.out j hnx, List.cons_append, List.append_assoc, List.cons_append, List.append_assoc] at h5
              exact h5)
            go_wp2_with (first
              | (go_at_call 37; refine (blanks_none hRW.out hat3.out hTH.out (NoB_cons (by decide))).mono ?_; rintro e w7 ⟨rfl, n7, rfl⟩)
              | (go_at_call 74; refine (take_yes (c := 44) rfl (by exact hRW.out) hat3.out hTH.out).mono ?_; rintro e w8 ⟨rfl, hw8⟩; have hM8 := Lib.hid ((hFH.out.drewN n7).went hw8); clear hw8))
            go_roundg (l.length - (j + 1))
            case measure => omega
            case rel => exact ⟨j + 1, q2 + 1, _, _, _, _, by omega, rfl, .inl ⟨rfl, hnx, Lib.hid hat3.out.tail⟩, hM8⟩
          · have hat3 : Hid (At T q2 (125 :: Y)) := Lib.hid (by
              have h5 := hat2H.out
              rw [List.drop_eq_nil_of_le (by omega), membT] at h5
              exact h5)
            go_wp2_with (first
              | (go_at_call 37; refine (blanks_none hRW.out hat3.out hTH.out (NoB_cons (by decide))).mono ?_; rintro e w7 ⟨rfl, n7, rfl⟩)
              | (go_at_call 74; refine (take_no (c := 44) (d := 125) rfl (by exact hRW.out) hat3.out hTH.out (by decide)).mono ?_; rintro e w8 ⟨rfl, n8, rfl⟩; have hM8 := hFH.out.drewN n7; have hM8 := hM8.drewN n8; rw [World.drewN_drewN] at hM8; have hM8 := Lib.hid hM8))
            go_roundg (l.length - (j + 1))
            case measure => omega
            case rel => exact ⟨j + 1, q2, _, _, _, _, by omega, rfl, .inr ⟨rfl, by omega, hat3⟩, hM8⟩
        · have hF := Mid.close (haggH.out (.slice ao n c) (.slice ao2 n2 c2) a b).symm (Mid.fill (o := j * 6) (v0 := .int .i64 nk) (v1 := .string nt) (v2 := .slice ao n c) (v3 := .slice ao2 n2 c2) (v4 := .int .i64 a) (v5 := .int .i64 b) (hM.out.setCur (.slice (some ⟨g, 0, none⟩) (j + 1) cap)) (by rw [hljH.out]; omega) (by omega))
          rw [← htakeH.out] at hF
          generalize (((((((w5.setCell ⟨nb, 2, none⟩ (.slice (some ⟨g, 0, none⟩) (j + 1) cap)).setCell ⟨g, j * 6, none⟩ (.int .i64 nk)).setCell ⟨g, j * 6 + 1, none⟩ (.string nt)).setCell ⟨g, j * 6 + 2, none⟩ (.slice ao n c)).setCell ⟨g, j * 6 + 3, none⟩ (.slice ao2 n2 c2)).setCell ⟨g, j * 6 + 4, none⟩ (.int .i64 a)).setCell ⟨g, j * 6 + 5, none⟩ (.int .i64 b)) = W at hF ⊢
          have hFH := Lib.hid hF
          have hRW := Lib.hid hF.rdr
          clear hF hM t0 t1 t2 t3 t4 t5 tf0 tf1 tf2 tf3 tf4 tf5 k2 k2a y2 hN6 hS6 hw6
          obtain ⟨d0, d1, d2, g1, g2⟩ := hRW.out.cells
          by_cases hnx : j + 1 < l.length
          · have hat3 : Hid (At T q2 (44 :: (quoteT (ks[j + 1]'(by rw [hkl]; exact hnx)) ++ ((58 : UInt8) :: (valT l[j + 1] ++ (membT (l.drop (j + 2)) (ks.drop (j + 2)) false ++ 125 :: Y)))))) := Lib.hid (by
              have h5 := hat2H.out
              rw [hnextH.out j hnx, List.cons_append, List.append_assoc, List.cons_append, List.append_assoc] at h5
              exact h5)
            go_wp2_with (first
              | (go_at_call 37; refine (blanks_none hRW.out hat3.out hTH.out (NoB_cons (by decide))).mono ?_; rintro e w7 ⟨rfl, n7, rfl⟩)
              | (go_at_call 74; refine (take_yes (c := 44) rfl (by exact hRW.out) hat3.out hTH.out).mono ?_; rintro e w8 ⟨rfl, hw8⟩; have hM8 := Lib.hid ((hFH.out.drewN n7).went hw8); clear hw8))
            go_roundg (l.length - (j + 1))
            case measure => omega
            case rel => exact ⟨j + 1, q2 + 1, _, _, _, _, by omega, rfl, .inl ⟨rfl, hnx, Lib.hid hat3.out.tail⟩, hM8⟩
          · have hat3 : Hid (At T q2 (125 :: Y)) := Lib.hid (by
              have h5 := hat2H.out
              rw [List.drop_eq_nil_of_le (by omega), membT] at h5
              exact h5)
            go_wp2_with (first
              | (go_at_call 37; refine (blanks_none hRW.out hat3.out hTH.out (NoB_cons (by decide))).mono ?_; rintro e w7 ⟨rfl, n7, rfl⟩)
              | (go_at_call 74; refine (take_no (c := 44) (d := 125) rfl (by exact hRW.out) hat3.out hTH.out (by decide)).mono ?_; rintro e w8 ⟨rfl, n8, rfl⟩; have hM8 := hFH.out.drewN n7; have hM8 := hM8.drewN n8; rw [World.drewN_drewN] at hM8; have hM8 := Lib.hid hM8))
            go_roundg (l.length - (j + 1))
            case measure => omega
            case rel => exact ⟨j + 1, q2, _, _, _, _, by omega, rfl, .inr ⟨rfl, by omega, hat3⟩, hM8⟩
        · have hF := Mid.close (haggH.out (.slice ao n c) (.slice ao2 n2 c2) a b).symm ((Mid.fill (o := j * 6) (v0 := .int .i64 nk) (v1 := .string nt) (v2 := .slice ao n c) (v3 := .slice ao2 n2 c2) (v4 := .int .i64 a) (v5 := .int .i64 b) hM.out (by rw [hljH.out]; omega) (by omega)).setCur (.slice (some ⟨g, 0, none⟩) (j + 1) cap))
          rw [← htakeH.out] at hF
          generalize (((((((w5.setCell ⟨g, j * 6, none⟩ (.int .i64 nk)).setCell ⟨g, j * 6 + 1, none⟩ (.string nt)).setCell ⟨g, j * 6 + 2, none⟩ (.slice ao n c)).setCell ⟨g, j * 6 + 3, none⟩ (.slice ao2 n2 c2)).setCell ⟨g, j * 6 + 4, none⟩ (.int .i64 a)).setCell ⟨g, j * 6 + 5, none⟩ (.int .i64 b)).setCell ⟨nb, 2, none⟩ (.slice (some ⟨g, 0, none⟩) (j + 1) cap)) = W at hF ⊢
          have hFH := Lib.hid hF
          have hRW := Lib.hid hF.rdr
          clear hF hM t0 t1 t2 t3 t4 t5 tf0 tf1 tf2 tf3 tf4 tf5 k2 k2a y2 hN6 hS6 hw6
          obtain ⟨d0, d1, d2, g1, g2⟩ := hRW.out.cells
          by_cases hnx : j + 1 < l.length
          · have hat3 : Hid (At T q2 (44 :: (quoteT (ks[j + 1]'(by rw [hkl]; exact hnx)) ++ ((58 : UInt8) :: (valT l[j + 1] ++ (membT (l.drop (j + 2)) (ks.drop (j + 2)) false ++ 125 :: Y)))))) := Lib.hid (by
              have h5 := hat2H.out
              rw [hnextH.out j hnx, List.cons_append, List.append_assoc, List.cons_append, List.append_assoc] at h5
              exact h5)
            go_wp2_with (first
              | (go_at_call 37; refine (blanks_none hRW.out hat3.out hTH.out (NoB_cons (by decide))).mono ?_; rintro e w7 ⟨rfl, n7, rfl⟩)
              | (go_at_call 74; refine (take_yes (c := 44) rfl (by exact hRW.out) hat3.out hTH.out).mono ?_; rintro e w8 ⟨rfl, hw8⟩; have hM8 := Lib.hid ((hFH.out.drewN n7).went hw8); clear hw8))
            go_roundg (l.length - (j + 1))
            case measure => omega
            case rel => exact ⟨j + 1, q2 + 1, _, _, _, _, by omega, rfl, .inl ⟨rfl, hnx, Lib.hid hat3.out.tail⟩, hM8⟩
          · have hat3 : Hid (At T q2 (125 :: Y)) := Lib.hid (by
              have h5 := hat2H.out
              rw [List.drop_eq_nil_of_le (by omega), membT] at h5
              exact h5)
            go_wp2_with (first
              | (go_at_call 37; refine (blanks_none hRW.out hat3.out hTH.out (NoB_cons (by decide))).mono ?_; rintro e w7 ⟨rfl, n7, rfl⟩)
              | (go_at_call 74; refine (take_no (c := 44) (d := 125) rfl (by exact hRW.out) hat3.out hTH.out (by decide)).mono ?_; rintro e w8 ⟨rfl, n8, rfl⟩; have hM8 := hFH.out.drewN n7; have hM8 := hM8.drewN n8; rw [World.drewN_drewN] at hM8; have hM8 := Lib.hid hM8))
            go_roundg (l.length - (j + 1))
            case measure => omega
            case rel => exact ⟨j + 1, q2, _, _, _, _, by omega, rfl, .inr ⟨rfl, by omega, hat3⟩, hM8⟩
        · have hF := Mid.close (haggH.out (.slice ao n c) (.slice ao2 n2 c2) a b).symm (Mid.fill (o := j * 6) (v0 := .int .i64 nk) (v1 := .string nt) (v2 := .slice ao n c) (v3 := .slice ao2 n2 c2) (v4 := .int .i64 a) (v5 := .int .i64 b) (hM.out.setCur (.slice (some ⟨g, 0, none⟩) (j + 1) cap)) (by rw [hljH.out]; omega) (by omega))
          rw [← htakeH.out] at hF
          generalize (((((((w5.setCell ⟨nb, 2, none⟩ (.slice (some ⟨g, 0, none⟩) (j + 1) cap)).setCell ⟨g, j * 6, none⟩ (.int .i64 nk)).setCell ⟨g, j * 6 + 1, none⟩ (.string nt)).setCell ⟨g, j * 6 + 2, none⟩ (.slice ao n c)).setCell ⟨g, j * 6 + 3, none⟩ (.slice ao2 n2 c2)).setCell ⟨g, j * 6 + 4, none⟩ (.int .i64 a)).setCell ⟨g, j * 6 + 5, none⟩ (.int .i64 b)) = W at hF ⊢
          have hFH := Lib.hid hF
          have hRW := Lib.hid hF.rdr
          clear hF hM t0 t1 t2 t3 t4 t5 tf0 tf1 tf2 tf3 tf4 tf5 k2 k2a y2 hN6 hS6 hw6
          obtain ⟨d0, d1, d2, g1, g2⟩ := hRW.out.cells
          by_cases hnx : j + 1 < l.length
          · have hat3 : Hid (At T q2 (44 :: (quoteT (ks[j + 1]'(by rw [hkl]; exact hnx)) ++ ((58 : UInt8) :: (valT l[j + 1] ++ (membT (l.drop (j + 2)) (ks.drop (j + 2)) false ++ 125 :: Y)))))) := Lib.hid (by
              have h5 := hat2H.out
              rw [hnextH.out j hnx, List.cons_append, List.append_assoc, List.cons_append, List.append_assoc] at h5
              exact h5)
            go_wp2_with (first
              | (go_at_call 37; refine (blanks_none hRW.out hat3.out hTH.out (NoB_cons (by decide))).mono ?_; rintro e w7 ⟨rfl, n7, rfl⟩)
              | (go_at_call 74; refine (take_yes (c := 44) rfl (by exact hRW.out) hat3.out hTH.out).mono ?_; rintro e w8 ⟨rfl, hw8⟩; have hM8 := Lib.hid ((hFH.out.drewN n7).went hw8); clear hw8))
            go_roundg (l.length - (j + 1))
            case measure => omega
            case rel => exact ⟨j + 1, q2 + 1, _, _, _, _, by omega, rfl, .inl ⟨rfl, hnx, Lib.hid hat3.out.tail⟩, hM8⟩
          · have hat3 : Hid (At T q2 (125 :: Y)) := Lib.hid (by
              have h5 := hat2H.out
              rw [List.drop_eq_nil_of_le (by omega), membT] at h5
              exact h5)
            go_wp2_with (first
              | (go_at_call 37; refine (blanks_none hRW.out hat3.out hTH.out (NoB_cons (by decide))).mono ?_; rintro e w7 ⟨rfl, n7, rfl⟩)
              | (go_at_call 74; refine (take_no (c := 44) (d := 125) rfl (by exact hRW.out) hat3.out hTH.out (by decide)).mono ?_; rintro e w8 ⟨rfl, n8, rfl⟩; have hM8 := hFH.out.drewN n7; have hM8 := hM8.drewN n8; rw [World.drewN_drewN] at hM8; have hM8 := Lib.hid hM8))
            go_roundg (l.length - (j + 1))
            case measure => omega
            case rel => exact ⟨j + 1, q2, _, _, _, _, by omega, rfl, .inr ⟨rfl, by omega, hat3⟩, hM8⟩
    · subst hje
      have hM2 : Hid (Mid w0 wr rb nb T q 7 x lv lv kv l ks l.length xs [] [] S) := Lib.hid (by have := hM.out; rw [List.take_length, List.take_of_length_le (by omega)] at this; exact this)
      have hq : q + 1 = p + (membT l ks true).length + 1 := by have h1 := hat.out.len; have h2 := hendH.out; simp at h1; omega
      have hqH := Lib.hid hq
      clear hM hq
      go_wp2_with (go_at_call 74; refine (take_yes (c := 125) rfl hM2.out.rdr hat.out hTH.out).mono ?_; rintro e w8 ⟨rfl, hw8⟩; have hM8 := Lib.hid (hM2.out.went hw8); clear hw8)
      go_end0
      exact ⟨rfl, by rw [← hqH.out]; exact hM8.out.out⟩

end Go.Proofs.YtokmkkkanphihaaGreatRDoor

/- The reference's reader at the text of every value: spec.Parse finds a node that stands for it. -/
namespace Go.Proofs.YtokmkkkanphihaaGreatRDoor
open Go.RowKit Go.Sort

set_option maxHeartbeats 1600000 in
set_option maxRecDepth 100000 in
theorem parts_nil {w0 : World} {rb nb p d : Nat} {T : ByteArray} {kd x ei : Int} {e : UInt8} {Y : List UInt8} (hei : ei = (e.toNat : Int)) (heb : e ≠ 32 ∧ e ≠ 9 ∧ e ≠ 10 ∧ e ≠ 13) (h : Rdr w0 rb T p) (hne : nb ≠ rb)
    (hb : w0.heap[nb]? = some (.cells #[.int .i64 kd, .string ⟨#[]⟩, .slice none 0 0, .slice none 0 0, .int .i64 x, .int .i64 0] 48 (0, 0)))
    (ha : At T p (e :: Y)) (hT : T.size ≤ lim) :
    Calls Tryz.prog 63 #[.pointer (some ⟨rb, 0, none⟩), .pointer (some ⟨nb, 0, none⟩), .int .u8 ei, .int .i64 d] w0 fun e w' => e = .returned (.tuple #[]) ∧ POut w0 rb nb T (p + 1) kd x [] [] w' := by
  obtain ⟨c0, c1, c2, f1, f2⟩ := h.cells
  have hbl0 : Calls Tryz.prog 37 #[.pointer (some ⟨rb, 0, none⟩)] w0 fun e w' => e = .returned (.tuple #[]) ∧ ∃ n, w' = w0.drewN n := blanks_none h ha hT (NoB_cons heb)
  have htk0 : ∀ n, Calls Tryz.prog 74 #[.pointer (some ⟨rb, 0, none⟩), .int .u8 ei] (w0.drewN n) fun e w' => e = .returned (.bool true) ∧ Went (w0.drewN n) w' rb T (p + 1) := fun n => take_yes hei (by exact h) ha hT
  have hstart := Lib.hid (Mid.start (x := x) (kd := kd) h hb hne)
  have hbl0H := Lib.hid hbl0
  have htk0H := Lib.hid htk0
  clear h hb hne ha hbl0 htk0 hT hei heb
  go_enter Tryz.func63, Tryz.ntmps63
  go_wp2_with (first
    | (go_at_call 37; refine hbl0H.out.mono ?_; rintro e w1 ⟨rfl, n1, rfl⟩)
    | (go_at_call 74; refine (htk0H.out n1).mono ?_; rintro e w2 ⟨rfl, hw2⟩; have hM := Lib.hid ((hstart.out.drewN n1).went hw2); clear hw2))
  (try simp only [Exit.inBlock, Exit.then])
  refine bodyPost_ret (results_none rfl _ _ _) rfl ?_
  exact ⟨rfl, hM.out.out⟩

theorem listT_ge : ∀ (l : List Val) (f : Bool), (∀ z ∈ l, valT z ≠ []) → l.length ≤ (listT l f).length
  | [], _, _ => by simp
  | v :: vs, f, h => by
    have h1 := listT_ge vs false fun z hz => h z (by simp [hz])
    have h2 : 0 < (valT v).length := List.length_pos_iff.2 (h v (by simp))
    rw [listT]
    simp only [List.length_append, List.length_cons]
    omega

theorem membT_ge : ∀ (l : List Val) (ks : List ByteArray) (f : Bool), l.length ≤ (membT l ks f).length
  | [], _, _ => by simp
  | v :: vs, ks, f => by
    have h1 := membT_ge vs ks.tail false
    rw [membT]
    simp only [List.length_append, List.length_cons]
    omega

theorem starts_of {v : Val} (h : Good v) : ∃ c X k, valT v = c :: X ∧ Starts k c := by
  obtain ⟨k, i, r, t, l, ks⟩ := v
  simp only [Good] at h
  obtain ⟨c, X, e, hs⟩ := valT_head (i := i) (t := t) (l := l) (ks := ks) h.1.1 h.1.2 h.2.2.1
  exact ⟨c, X, k, e, hs⟩

theorem nodes_nil {S : Nat → Prop} {w : World} : NodesIn S w [] (.slice none 0 0) := ⟨none, 0, rfl, .inl rfl⟩
theorem keys_nil {S : Nat → Prop} {w : World} : KeysIn S w [] (.slice none 0 0) := ⟨none, 0, rfl, .inl rfl⟩

/-- Out of a leaf. -/
theorem leaf_out {w w' : World} {rb q : Nat} {T : ByteArray} {k i : Int} {r : Nat} {t tx : ByteArray} {kd x y : Int} {e : Ending} (hk : nodeK k = kd) (ht : nodeT k i r t = tx)
    (h : e = .returned (.agg #[.int .i64 kd, .string tx, .slice none 0 0, .slice none 0 0, .int .i64 x, .int .i64 y]) ∧ Went w w' rb T q) : VOut w rb T q (.mk k i r t [] []) e w' := by
  subst hk
  subst ht
  exact ⟨.slice none 0 0, .slice none 0 0, x, y, fun _ => False, h.1, ⟨nodes_nil, keys_nil⟩, fun k hk => hk.elim, h.2⟩

/-- EVERY VALUE'S TEXT IS READ AS A NODE THAT STANDS FOR IT. -/
theorem value_any : ∀ (d : Nat), d ≤ 12 → ∀ (v : Val), Good v → DeepV d v → ∀ (rb : Nat) (T : ByteArray) (q : Nat) (Y : List UInt8), At T q (valT v ++ Y) → Stop Y → T.size ≤ lim → Reads rb T d v q := by
  intro d
  induction d with
  | zero =>
    intro _ v _ hD
    obtain ⟨k, i, r, t, l, ks⟩ := v
    simp only [DeepV] at hD
    omega
  | succ d ih =>
    intro hd12 v hG hD rb T q Y ha hY hT W hW
    have hG0 := hG
    obtain ⟨k, i, r, t, l, ks⟩ := v
    simp only [Good] at hG
    simp only [DeepV, Nat.add_sub_cancel] at hD
    obtain ⟨⟨hk1, hk7⟩, _, hr, hkl, hl6, hk7', hGL⟩ := hG
    obtain ⟨_, hDL⟩ := hD
    have hpos : 0 < d + 1 := by omega
    have hvals : ∀ j (hj : j < l.length) q' Y', At T q' (valT l[j] ++ Y') → Stop Y' → Reads rb T (((d + 1 : Nat) : Int) - 1) l[j] q' := fun j hj q' Y' h1 h2 => by
      have := ih (by omega) l[j] (hGL.at j hj) (hDL.at j hj) rb T q' Y' h1 h2 hT
      rw [show (((d + 1 : Nat) : Int) - 1) = (d : Int) by omega]
      exact this
    have hcases : k = 1 ∨ k = 2 ∨ k = 3 ∨ k = 4 ∨ k = 5 ∨ k = 6 ∨ k = 7 := by omega
    rcases hcases with rfl | rfl | rfl | rfl | rfl | rfl | rfl
    · obtain rfl := hl6 (by decide)
      obtain rfl := hk7' (by decide)
      have e : valT (.mk 1 i r t [] []) = [110, 117, 108, 108] := by rw [valT]; rfl
      rw [e] at ha ⊢
      exact (value_null hW ha hT hpos hd12 (q := q + 4) (tx := ⟨#[110, 117, 108, 108]⟩) fun W' hW' => word_any (W := ⟨#[110, 117, 108, 108]⟩) hW' ha hT).mono fun e' w' hh => leaf_out rfl rfl hh
    · obtain rfl := hl6 (by decide)
      obtain rfl := hk7' (by decide)
      have e : valT (.mk 2 i r t [] []) = boolTxt (i == 1) := by rw [valT]; rfl
      have en : nodeT 2 i r t = ⟨(boolTxt (i == 1)).toArray⟩ := rfl
      rw [e] at ha ⊢
      by_cases hi : (i == 1) = true
      · rw [hi] at ha en ⊢
        exact (value_true hW ha hT hpos hd12 (q := q + 4) (tx := ⟨#[116, 114, 117, 101]⟩) fun W' hW' => word_any (W := ⟨#[116, 114, 117, 101]⟩) hW' ha hT).mono fun e' w' hh => leaf_out rfl en hh
      · have hi' : (i == 1) = false := by simpa using hi
        rw [hi'] at ha en ⊢
        exact (value_false hW ha hT hpos hd12 (q := q + 5) (tx := ⟨#[102, 97, 108, 115, 101]⟩) fun W' hW' => word_any (W := ⟨#[102, 97, 108, 115, 101]⟩) hW' ha hT).mono fun e' w' hh => leaf_out rfl en hh
    · obtain rfl := hl6 (by decide)
      obtain rfl := hk7' (by decide)
      have e : valT (.mk 3 i r t [] []) = Lib.itoa i := by rw [valT]; rfl
      rw [e] at ha ⊢
      obtain ⟨c, X, hcX, hc⟩ := (NumTxt_itoa i).head
      have ha2 : At T q (c :: (X ++ Y)) := by rw [hcX] at ha; exact ha
      exact (value_num hW ha2 hT hpos hd12 hc (q := q + (Lib.itoa i).length) (tx := ⟨(Lib.itoa i).toArray⟩) fun W' hW' => number_any hW' ha hT hY (NumTxt_itoa i)).mono fun e' w' hh => leaf_out rfl rfl hh
    · obtain rfl := hl6 (by decide)
      obtain rfl := hk7' (by decide)
      have e : valT (.mk 4 i r t [] []) = realT r := by rw [valT]; rfl
      rw [e] at ha ⊢
      have hnum := NumTxt_real (realT_spec (hr rfl))
      obtain ⟨c, X, hcX, hc⟩ := hnum.head
      have ha2 : At T q (c :: (X ++ Y)) := by rw [hcX] at ha; exact ha
      exact (value_num hW ha2 hT hpos hd12 hc (q := q + (realT r).length) (tx := ⟨(realT r).toArray⟩) fun W' hW' => number_any hW' ha hT hY hnum).mono fun e' w' hh => leaf_out rfl rfl hh
    · obtain rfl := hl6 (by decide)
      obtain rfl := hk7' (by decide)
      have e : valT (.mk 5 i r t [] []) = quoteT t := by rw [valT]; rfl
      rw [e] at ha ⊢
      have ha2 : At T q (34 :: (esc t.data.toList ++ 34 :: Y)) := by
        have : quoteT t ++ Y = 34 :: (esc t.data.toList ++ 34 :: Y) := by simp [quoteT]
        rw [this] at ha
        exact ha
      have hlen : q + (esc t.data.toList).length + 2 = q + (quoteT t).length := by simp [quoteT]; omega
      exact (value_text hW ha2 hT hpos hd12 (q := q + (quoteT t).length) (tx := t) fun W' hW' => by
        have h1 := quoted_any hW' ha2 hT
        rw [bytes_self, hlen] at h1
        exact h1).mono fun e' w' hh => leaf_out rfl rfl hh
    · obtain rfl := hk7' (by decide)
      have e : valT (.mk 6 i r t l []) = [91] ++ listT l true ++ [93] := by rw [valT]; rfl
      rw [e] at ha ⊢
      have ha2 : At T q (91 :: (listT l true ++ 93 :: Y)) := by simpa using ha
      have hlen : q + ([91] ++ listT l true ++ [93]).length = q + 1 + (listT l true).length + 1 := by simp; omega
      rw [hlen]
      have hst : ∀ z ∈ l, ∃ c X k, valT z = c :: X ∧ Starts k c := fun z hz => by
        obtain ⟨j, hj, rfl⟩ := List.getElem_of_mem hz
        exact starts_of (hGL.at j hj)
      have hlb : l.length ≤ lim := by
        have h1 := listT_ge l true fun z hz => by obtain ⟨c, X, k, e, _⟩ := hst z hz; rw [e]; simp
        have h2 := ha2.len
        simp only [List.length_cons, List.length_append] at h2
        omega
      refine (value_list (l := l) (ks := []) (q := q + 1 + (listT l true).length + 1) hW ha2 hT hpos hd12 fun W' nb hW' hne hb => ?_).mono ?_
      · by_cases hl : l = []
        · subst hl
          rw [listT, List.nil_append] at ha2
          rw [listT]
          exact parts_nil (e := 93) rfl (by decide) hW' hne hb ha2.tail hT
        · exact parts_list hW' hne hb ha2.tail hT hpos hd12 hlb hl hst hvals
      · rintro e' w' ⟨lv, kv, S, he, hL, hK, hS, hw⟩
        exact ⟨lv, kv, _, _, S, he, ⟨hL, hK⟩, hS, hw⟩
    · have hkl' := hkl rfl
      have e : valT (.mk 7 i r t l ks) = [123] ++ membT l ks true ++ [125] := by rw [valT]; rfl
      rw [e] at ha ⊢
      have ha2 : At T q (123 :: (membT l ks true ++ 125 :: Y)) := by simpa using ha
      have hlen : q + ([123] ++ membT l ks true ++ [125]).length = q + 1 + (membT l ks true).length + 1 := by simp; omega
      rw [hlen]
      have hlb : l.length ≤ lim := by
        have h1 := membT_ge l ks true
        have h2 := ha2.len
        simp only [List.length_cons, List.length_append] at h2
        omega
      refine (value_obj (l := l) (ks := ks) (q := q + 1 + (membT l ks true).length + 1) hW ha2 hT hpos hd12 fun W' nb hW' hne hb => ?_).mono ?_
      · by_cases hl : l = []
        · subst hl
          obtain rfl : ks = [] := List.length_eq_zero_iff.1 (by simpa using hkl')
          rw [membT, List.nil_append] at ha2
          rw [membT]
          exact parts_nil (e := 125) rfl (by decide) hW' hne hb ha2.tail hT
        · exact parts_obj hW' hne hkl' hb ha2.tail hT hpos hd12 hlb hl hvals
      · rintro e' w' ⟨lv, kv, S, he, hL, hK, hS, hw⟩
        exact ⟨lv, kv, _, _, S, he, ⟨hL, hK⟩, hS, hw⟩
end Go.Proofs.YtokmkkkanphihaaGreatRDoor

/- spec.Parse at the text of a value. -/
namespace Go.Proofs.YtokmkkkanphihaaGreatRDoor
open Go.RowKit Go.Sort

theorem results_block2 {fn : Func} {p u : Tmp} {ty : TypeId} (h : fn.results = #[.cell p ty, .tmp u]) (tmps : Array Value) (P : Program) (w : World) {g : Nat} {cs : Array Value} {x : Value} (hp : tmps.getD p undef = .pointer (some ⟨g, 0, none⟩)) (hu : tmps.getD u undef = x)
    (hl : (loadVar ty ⟨g, 0, none⟩).run P w = .ok (.agg cs) w) : (results fn tmps).run P w = .ok (.tuple #[.agg cs, x]) w := by
  have ha : (asAddr (.pointer (some ⟨g, 0, none⟩))).run P w = .ok ⟨g, 0, none⟩ w := rfl
  rw [results_cell_tmp h, hp, hu, ha]
  simp only [Result.andThen, hl]

theorem free_alloc {w : World} {b : Nat} {cs : Array Value} {t : TypeId} (h : w.heap[b]? = some (.cells cs t (0, 0))) (o : Obj) (j : Nat) : (w.alloc o).frozen? ⟨b, j, none⟩ = false :=
  free_of ((heap_alloc_old w o b (Array.getElem?_eq_some_iff.1 h).1).trans h) j

/-- What Parse hands back. -/
def ParseOut (w : World) (v : Val) (e : Ending) (w' : World) : Prop :=
  ∃ ls kv x y S, e = .returned (.tuple #[.agg (aggN v ls kv x y), .bool true]) ∧ NSubs S w' v ls kv ∧ (∀ k, S k → k < w'.heap.size) ∧ Kp (fun _ => False) w w'

set_option maxHeartbeats 3200000 in
set_option maxRecDepth 100000 in
theorem Parse_any {w : World} {v : Val} (hG : Good v) (hD : DeepV 12 v) (hlen : (valT v).length ≤ lim) :
    Calls Tryz.prog 20 #[.string ⟨(valT v).toArray⟩] w (ParseOut w v) := by
  obtain ⟨T, hT⟩ : ∃ T : ByteArray, ⟨(valT v).toArray⟩ = T := ⟨_, rfl⟩
  rw [hT]
  have hat : At T 0 (valT v ++ []) := by rw [List.append_nil, ← hT]; exact At.of _
  have hTs : T.size = (valT v).length := by have := hat.len; simp at this; omega
  have hTl : T.size ≤ lim := by omega
  have hTl' : T.size ≤ 1099511627776 := hTl
  have hval := value_any 12 (by omega) v hG hD (w.heap.size + 1) T 0 [] hat Stop_nil hTl
  have hend : At T T.size [] := by have h1 := hat.skip; rw [hTs]; simpa using h1
  obtain ⟨vk, vi, vr, vt, vl, vks⟩ := v
  obtain ⟨nk, hnk⟩ : ∃ nk, nodeK vk = nk := ⟨_, rfl⟩
  obtain ⟨nt, hnt⟩ : ∃ nt, nodeT vk vi vr vt = nt := ⟨_, rfl⟩
  obtain ⟨v, hv⟩ : ∃ v, Val.mk vk vi vr vt vl vks = v := ⟨_, rfl⟩
  have hagg : ∀ ls kz a b, aggN v ls kz a b = #[.int .i64 nk, .string nt, ls, kz, .int .i64 a, .int .i64 b] := fun ls kz a b => by rw [← hv, ← hnk, ← hnt]; rfl
  have hR0 : Rdr ((w.alloc (rdNode 0)).alloc (.cells #[.string T, .int .i64 0, .bool false] 75)) (w.heap.size + 1) T 0 := by
    have := heap_alloc_new (w.alloc (rdNode 0)) (.cells #[.string T, .int .i64 0, .bool false] 75)
    simpa [Rdr] using this
  have hz0 : ((w.alloc (rdNode 0)).alloc (.cells #[.string T, .int .i64 0, .bool false] 75)).heap[w.heap.size]? = some (rdNode 0) := by
    rw [heap_alloc_old _ _ _ (by simp)]; exact heap_alloc_new w _
  have hv3 : Calls Tryz.prog 36 #[.pointer (some ⟨w.heap.size + 1, 0, none⟩), .int .i64 12] ((w.alloc (rdNode 0)).alloc (.cells #[.string T, .int .i64 0, .bool false] 75)) fun e w' => ∃ ao n c ao2 n2 c2 a b S2, e = .returned (.agg #[.int .i64 nk, .string nt, .slice ao n c, .slice ao2 n2 c2, .int .i64 a, .int .i64 b]) ∧ NSubs S2 w' v (.slice ao n c) (.slice ao2 n2 c2) ∧ (∀ k, S2 k → w.heap.size + 2 ≤ k ∧ k < w'.heap.size) ∧
      Rdr w' (w.heap.size + 1) T T.size ∧ w'.heap[w.heap.size]? = some (rdNode 0) ∧ Kp (fun _ => False) w w' := by
    refine (hval _ hR0).mono fun e w' hh => ?_
    obtain ⟨ls, kz, a, b, S2, he, hN, hS, hw⟩ := hh
    obtain ⟨⟨ao, c, rfl, h1⟩, ⟨ao2, c2, rfl, h2⟩⟩ := hN
    refine ⟨ao, _, c, ao2, _, c2, a, b, S2, by rw [he, hv, hagg], by rw [← hv]; exact ⟨⟨ao, c, rfl, h1⟩, ⟨ao2, c2, rfl, h2⟩⟩, fun k hk => by have := hS k hk; simp at this; omega, ?_, hw.2.at (by simp; omega) (by omega) hz0, ?_⟩
    · have := hw.1
      rw [Nat.zero_add, ← hTs] at this
      exact this
    · exact ((((Kp.refl (fun k => k = w.heap.size + 1) w).alloc _).alloc _).trans hw.2).mono fun k hk hx => by omega
  have hv3H := Lib.hid hv3
  have haggH := Lib.hid hagg
  have hendH := Lib.hid hend
  have hTlH := Lib.hid hTl
  rw [hv]
  clear hval hat hend hR0 hz0 hv3 hagg hG hD hv hnk hnt hTs hlen hTl
  go_enter Tryz.func20, Tryz.ntmps20
  go_wp2_with (first
    | (go_at_call 36; refine hv3H.out.mono ?_; rintro e w2 ⟨ao, n, c, ao2, n2, c2, a, b, S2, rfl, hN, hS, hR, hz, hk⟩; obtain ⟨d0, d1, d2, g1, g2⟩ := hR.cells; have hsz := hk.size; have z0 := fun o => cells_alloc hz o 0; have z1 := fun o => cells_alloc hz o 1; have z2 := fun o => cells_alloc hz o 2; have z3 := fun o => cells_alloc hz o 3; have z4 := fun o => cells_alloc hz o 4; have z5 := fun o => cells_alloc hz o 5; have x0 := fun o => free_alloc hz o 0; have x1 := fun o => free_alloc hz o 1; have x2 := fun o => free_alloc hz o 2; have x3 := fun o => free_alloc hz o 3; have x4 := fun o => free_alloc hz o 4; have x5 := fun o => free_alloc hz o 5; simp only [List.getElem?_toArray, List.getElem?_cons_zero, List.getElem?_cons_succ] at z0 z1 z2 z3 z4 z5; have d0a := fun o => cells_alloc hR o 0; have d1a := fun o => cells_alloc hR o 1; have d2a := fun o => cells_alloc hR o 2; simp only [List.getElem?_toArray, List.getElem?_cons_zero, List.getElem?_cons_succ] at d0a d1a d2a; have hRH := Lib.hid hR; have hzH := Lib.hid hz; have hNH := Lib.hid hN; have hSH := Lib.hid hS; have hkH := Lib.hid hk; clear hR hz hN hS hk)
    | (go_at_call 37; refine (blanks_none (by exact hRH.out.kept (heap_alloc_old w2 _ _ hRH.out.lt)) hendH.out hTlH.out NoB_nil).mono ?_; rintro e w5 ⟨rfl, n5, rfl⟩))
  have hlt2 := hRH.out.lt
  have hW : ((w2.alloc (.cells #[.int .i64 nk, .string nt, .slice ao n c, .slice ao2 n2 c2, .int .i64 a, .int .i64 b] 48)).drewN n5).heap[w.heap.size]? = some (rdNode 0) := by
    rw [World.heap_drewN, heap_alloc_old _ _ _ (by omega)]; exact hzH.out
  have hfin := set6 (v0 := .int .i64 nk) (v1 := .string nt) (v2 := .slice ao n c) (v3 := .slice ao2 n2 c2) (v4 := .int .i64 a) (v5 := .int .i64 b) hW
  have hkp : Kp (fun _ => False) w ((((((((w2.alloc (.cells #[.int .i64 nk, .string nt, .slice ao n c, .slice ao2 n2 c2, .int .i64 a, .int .i64 b] 48)).drewN n5).setCell ⟨w.heap.size, 0, none⟩ (.int .i64 nk)).setCell ⟨w.heap.size, 1, none⟩ (.string nt)).setCell ⟨w.heap.size, 2, none⟩ (.slice ao n c)).setCell ⟨w.heap.size, 3, none⟩ (.slice ao2 n2 c2)).setCell ⟨w.heap.size, 4, none⟩ (.int .i64 a)).setCell ⟨w.heap.size, 5, none⟩ (.int .i64 b)) :=
    ((((((((hkH.out.alloc _).drewN n5).setCell _ _ _ (.inr (Nat.le_refl _))).setCell _ _ _ (.inr (Nat.le_refl _))).setCell _ _ _ (.inr (Nat.le_refl _))).setCell _ _ _ (.inr (Nat.le_refl _))).setCell _ _ _ (.inr (Nat.le_refl _))).setCell _ _ _ (.inr (Nat.le_refl _)))
  have hfar : ∀ k, S2 k → ((((((((w2.alloc (.cells #[.int .i64 nk, .string nt, .slice ao n c, .slice ao2 n2 c2, .int .i64 a, .int .i64 b] 48)).drewN n5).setCell ⟨w.heap.size, 0, none⟩ (.int .i64 nk)).setCell ⟨w.heap.size, 1, none⟩ (.string nt)).setCell ⟨w.heap.size, 2, none⟩ (.slice ao n c)).setCell ⟨w.heap.size, 3, none⟩ (.slice ao2 n2 c2)).setCell ⟨w.heap.size, 4, none⟩ (.int .i64 a)).setCell ⟨w.heap.size, 5, none⟩ (.int .i64 b)).heap[k]? = w2.heap[k]? := fun k hk => by
    have hk2 := hSH.out k hk
    have hne : k ≠ w.heap.size := by omega
    exact (same_set hne).trans ((same_set hne).trans ((same_set hne).trans ((same_set hne).trans ((same_set hne).trans ((same_set hne).trans (heap_alloc_old w2 _ k hk2.2))))))
  refine bodyPost_ret (results_block2 rfl _ _ _ rfl rfl (run_loadVar_row _ _ _ _ _ _ _ hfin Tryz.underlying48 rfl infoN)) rfl ⟨_, _, a, b, S2, by rw [haggH.out]; rfl, hNH.out.step hfar (fun _ h => h), fun k hk => ?_, hkp⟩
  have := hSH.out k hk
  simp [World.setCell]
  omega
end Go.Proofs.YtokmkkkanphihaaGreatRDoor
