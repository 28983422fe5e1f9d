/- spec.Reduced of a list and of an object, way 2 (written by genRe.py). -/
import Derived.Test.YtokmkkkanphihaaGreatRDoorYRed
namespace Go.Proofs.YtokmkkkanphihaaGreatRDoor
open Go.RowKit Go.Sort

theorem clnNull : clnV nullV = .mk 1 0 0 ByteArray.empty [] [] := by simp [nullV, clnV, clnL]

set_option maxHeartbeats 6400000 in
set_option maxRecDepth 100000 in
theorem Red_6_2 {w : World} {i : Int} {r : Nat} {t : ByteArray} {l : List Val} {ks : List ByteArray} {lb ka : Option Addr} {n1 n2 N : Nat} (hG : Good (.mk 6 i r t l ks)) (hlim : vsz (.mk 6 i r t l ks) ≤ lim) (hS : Subs N w (.mk 6 i r t l ks) (.slice lb l.length n1) (.slice ka ks.length n2)) (hNw : N ≤ w.heap.size)
    (hih : ∀ j (hj : j < l.length) W ls kv, Subs N W l[j] ls kv → N ≤ W.heap.size → Calls Tryz.prog 12 #[.agg (aggV l[j] ls kv), .int .i64 2] W (RedOut 2 W l[j])) :
    Calls Tryz.prog 12 #[.agg #[.int .i64 6, .int .i64 i, .float .f64 r, .string t, .slice lb l.length n1, .slice ka ks.length n2], .int .i64 2] w (RedOut 2 w (.mk 6 i r t l ks)) := by
  have hG0 := hG
  simp only [Good] at hG
  obtain ⟨-, -, -, hkl, -, -, hGL⟩ := hG
  have hll : l.length ≤ lim := by have := vszL_len l; simp only [vsz] at hlim; omega
  have hll' : l.length ≤ 1099511627776 := hll
  have hst := fun (x : Nat) (a : Addr) (w : World) => store_float x a w
  obtain ⟨i0, hi, hz0, hz1, hz2⟩ := info_parts info_val
  obtain ⟨j0, hjs, hy0, hy1, hy2⟩ := info_parts info_str
  have hO : ∀ W, Kp (fun _ => False) w W → Calls Tryz.prog 23 #[.agg #[.int .i64 6, .int .i64 i, .float .f64 r, .string t, .slice lb l.length n1, .slice ka ks.length n2]] W fun e w' => ∃ a1 m1 q1 a2 m2 q2, e = .returned (.agg #[.int .i64 6, .int .i64 0, .float .f64 0, .string ⟨#[]⟩, .slice a1 m1 q1, .slice a2 m2 q2]) ∧ Kp (fun _ => False) W w' := fun W hW =>
    (Only_any _ _ (Nat.le_refl _) hG0 hlim W N _ _ (hS.step (Nat.le_refl _) fun k hk => hW.block k (by omega) (fun x => x)) (by have := hW.size; omega)).mono fun e w' hh => by
      obtain ⟨a1, m1, q1, a2, m2, q2, he, _, hk⟩ := hh
      exact ⟨a1, m1, q1, a2, m2, q2, he, hk⟩
  obtain ⟨⟨_, _, hlb, hL⟩, ⟨_, _, hka, hK⟩⟩ := hS
  injection hlb with e1 _ e2
  subst e1 e2
  injection hka with e1 _ e2
  subst e1 e2
  have hOH := Lib.hid hO
  have hLH := Lib.hid hL
  have hKH := Lib.hid hK
  have hNle := Lib.hid hNw
  have hihH := Lib.hid hih
  have hGLH := Lib.hid hGL
  have hks0 : Hid (ks = []) := Lib.hid (by have h := hG0; simp only [Good] at h; exact h.2.2.2.2.2.1 (by decide))
  have hklH := Lib.hid hkl
  clear hO hL hK hNw hih hGL hkl hlim hll hG0
  go_enter Tryz.func12, Tryz.ntmps12
  go_wp2_with (go_at_call 23; refine (hOH.out _ (((Kp.refl _ w).alloc _).alloc _)).mono ?_; rintro e w1 ⟨a1, m1, q1, a2, m2, q2, rfl, hk1⟩; have hbx := hk1.at (b := w.heap.size) (by simp; omega) (fun x => x) fst2; have hrs := hk1.at (b := w.heap.size + 1) (by simp) (fun x => x) snd2; have v0 := fun o => cells_alloc hbx o 0; have v4 := fun o => cells_alloc hbx o 4; simp only [List.getElem?_toArray, List.getElem?_cons_zero, List.getElem?_cons_succ] at v0 v4; have hbxH := Lib.hid hbx; have hrsH := Lib.hid hrs; have hk1H := Lib.hid ((((Kp.refl (fun _ => False) w).alloc _).alloc _).trans hk1); clear hbx hrs hk1)
  obtain ⟨W0, hW0⟩ : ∃ W0, w1.alloc (.cells #[.int .i64 6, .int .i64 0, .float .f64 0, .string ⟨#[]⟩, .slice none 0 0, .slice none 0 0] 26) = W0 := ⟨_, rfl⟩
  have hw1s : w.heap.size + 1 < w1.heap.size := (Array.getElem?_eq_some_iff.1 hrsH.out).1
  have hW0s : Hid (W0.heap.size = w1.heap.size + 1) := Lib.hid (by rw [← hW0]; simp)
  have hW0o : Hid (∀ k, k < w.heap.size → W0.heap[k]? = w.heap[k]?) := Lib.hid (fun k hk => by rw [← hW0, heap_alloc_old _ _ _ (by omega)]; exact hk1H.out.block k hk (fun x => x))
  have hbx0 : Hid (W0.heap[w.heap.size]? = some (.cells #[.int .i64 6, .int .i64 i, .float .f64 r, .string t, .slice lb l.length n1, .slice ka ks.length n2] 26 (0, 0))) := Lib.hid (by rw [← hW0, heap_alloc_old _ _ _ (by omega)]; exact hbxH.out)
  have hrs0 : Hid (W0.heap[w.heap.size + 1]? = some (.cells #[.int .i64 0, .int .i64 0, .float .f64 0, .string ⟨#[]⟩, .slice none 0 0, .slice none 0 0] 26 (0, 0))) := Lib.hid (by rw [← hW0, heap_alloc_old _ _ _ hw1s]; exact hrsH.out)
  have hst0 : Hid (RSt W0 W0 w1.heap.size 6 (.slice none 0 0) (.slice none 0 0) [] [] [] (fun _ => False)) := Lib.hid {
    blk := by rw [← hW0]; exact heap_alloc_new w1 _
    row := World.ownsRow_nil _ _ _ _
    vals := RowV.nil _ _
    keys := World.ownsRow_nil _ _ _ _
    inS := fun k hk => hk.elim
    nrow := fun g _ hk => hk
    nkey := fun g _ hk => hk
    kp := Kp.refl _ _
    lt := by rw [hW0s.out]; omega }
  have hW0k : Hid (Kp (fun _ => False) w W0) := Lib.hid (by rw [← hW0]; exact hk1H.out.alloc _)
  rw [hW0]
  have hne1 : ¬ w.heap.size = w1.heap.size := by omega
  have hne2 : ¬ w1.heap.size = w.heap.size := by omega
  clear hW0 v0 v4 hbxH hrsH hk1H hOH
  go_loopg [24] (l.length) (fun k cc wr => ∃ (j : Nat) (lv kv : Value) (xs : List Value) (S : Nat → Prop), j ≤ l.length ∧ k = l.length - j ∧ cc = .int .i64 j ∧ Hid (RSt W0 wr w1.heap.size 6 lv kv (clnL (redL 2 (l.take j))) ([] : List ByteArray) xs S))
  case atStart => exact ⟨0, _, _, _, _, Nat.zero_le _, rfl, rfl, hst0⟩
  case round =>
    obtain ⟨j, lv, kv, xs, S, hj, hk, rfl, hR⟩ := hrel
    obtain ⟨ln, hlnE⟩ : ∃ ln, (clnL (redL 2 (l.take j))).length = ln := ⟨_, rfl⟩
    obtain ⟨kn, hknE⟩ : ∃ kn, ([] : List ByteArray).length = kn := ⟨_, rfl⟩
    obtain ⟨lo, lc, hlv⟩ : ∃ lo lc, lv = .slice lo ln lc := by
      rw [← hlnE]
      rcases hR.out.row.2 with ⟨e, e2⟩ | ⟨g, cap, cu, e, _⟩
      · exact ⟨none, 0, by rw [e, e2]⟩
      · exact ⟨_, _, e⟩
    obtain ⟨ko, kc, hkv⟩ : ∃ ko kc, kv = .slice ko kn kc := by
      rw [← hknE]
      rcases hR.out.keys.2 with ⟨e, e2⟩ | ⟨g, cap, cu, e, _⟩
      · exact ⟨none, 0, by rw [e, e2]⟩
      · exact ⟨_, _, e⟩
    have hlnle : ln ≤ j := by rw [← hlnE, clnL_len]; exact Nat.le_trans (redL_len 2 _) (by rw [List.length_take]; exact Nat.min_le_left _ _)
    have hlnEH := Lib.hid hlnE
    have hknEH := Lib.hid hknE
    clear hlnE hknE
    subst hlv hkv
    have hboxG : ∀ W, Kp (fun k => k = w1.heap.size) W0 W → W.heap[w.heap.size]? = some (.cells #[.int .i64 6, .int .i64 i, .float .f64 r, .string t, .slice lb l.length n1, .slice ka ks.length n2] 26 (0, 0)) := fun W hW => hW.at (by rw [hW0s.out]; omega) hne1 hbx0.out
    have hlwG : ∀ W, Kp (fun k => k = w1.heap.size) W0 W → ∀ k, k < w.heap.size → W.heap[k]? = w.heap[k]? := fun W hW k hk => (hW.block k (by rw [hW0s.out]; omega) (by show ¬ k = w1.heap.size; omega)).trans (hW0o.out k hk)
    have v4 : wr.cell? ⟨w.heap.size, 4, none⟩ = some (.slice lb l.length n1) := cells_of (hboxG wr hR.out.kp) 4
    by_cases hlt : j < l.length
    · obtain ⟨b2, o2, rfl, hPL⟩ : ∃ b2 o2, lb = some ⟨b2, o2, none⟩ ∧ PList N w l b2 o2 := by
        rcases hLH.out with h | h
        · subst h; simp at hlt
        · exact h
      obtain ⟨ls2, kv2, hS2, hb2, hc2⟩ := (hPL.at j hlt).cells
      have hb2w : b2 < w.heap.size := by have := hNle.out; omega
      have hcall := hihH.out j hlt wr ls2 kv2 (hS2.step (Nat.le_refl _) (fun k hk => hlwG wr hR.out.kp k (by have := hNle.out; omega))) (by have h1 := hR.out.kp.size; have h2 := hNle.out; rw [hW0s.out] at h1; omega)
      have hemp : ∀ W, Kp (fun k => k = w1.heap.size) W0 W → Calls Tryz.prog 24 #[.agg (aggV l[j] ls2 kv2)] W (EmptyOut W (emptyV l[j])) := fun W hW => IsEmpty_any (hGLH.out.at j hlt) (hS2.step (Nat.le_refl _) (fun k hk => hlwG W hW k (by have := hNle.out; omega)))
      have htk : l.take (j + 1) = l.take j ++ [l[j]] := List.take_succ_eq_append_getElem hlt
      obtain ⟨z, hz⟩ : ∃ z, l[j] = z := ⟨_, rfl⟩
      have hGz : Good z := by rw [← hz]; exact hGLH.out.at j hlt
      rw [hz] at hS2 hcall hemp htk
      have hc3 : ∀ W, Kp (fun k => k = w1.heap.size) W0 W → ∀ q (hq : q < 6), W.cell? ⟨b2, o2 + 6 * j + q, none⟩ = (aggV z ls2 kv2)[q]? := fun W hW q hq => by
        rw [World.cell?_of_block (hlwG W hW b2 hb2w), hc2 q hq, ← hz]
        exact (Array.getElem?_eq_getElem _).symm
      -- what comes of the part
      obtain ⟨x, hx⟩ : ∃ x, clnV (redV 2 z) = x := ⟨_, rfl⟩
      have hxk : ∃ xk xi xr xt xl xks, x = .mk xk xi xr xt xl xks := by cases x; exact ⟨_, _, _, _, _, _, rfl⟩
      obtain ⟨xk, xi, xr, xt, xl, xks, hxe⟩ := hxk
      have hcall2 : Calls Tryz.prog 12 #[.agg (aggV z ls2 kv2), .int .i64 2] wr fun e w' => ∃ a1 m1 q1 a2 m2 q2 S2, e = .returned (.agg #[.int .i64 xk, .int .i64 xi, .float .f64 xr, .string xt, .slice a1 m1 q1, .slice a2 m2 q2]) ∧ QSubs S2 w' x (.slice a1 m1 q1) (.slice a2 m2 q2) ∧ (∀ k, S2 k → wr.heap.size ≤ k ∧ k < w'.heap.size) ∧ Kp (fun _ => False) wr w' := hcall.mono fun e w' hh => by
        obtain ⟨ls, kz, S2, he, hN, hSS, hk⟩ := hh
        rw [hx, hxe] at hN
        obtain ⟨⟨a1, q1, rfl, g1⟩, ⟨a2, q2, rfl, g2⟩⟩ := hN
        refine ⟨a1, _, q1, a2, _, q2, S2, by rw [he, hx, hxe]; rfl, by rw [hxe]; exact ⟨⟨a1, q1, rfl, g1⟩, ⟨a2, q2, rfl, g2⟩⟩, hSS, hk⟩
      obtain ⟨k', i', r', t', l', ks'⟩ := z
      obtain ⟨⟨ao2, q3, rfl, _⟩, ⟨ak2, q4, rfl, _⟩⟩ := hS2
      simp only [aggV] at hcall2 hc3 hemp
      have hd : ∀ W, Kp (fun k => k = w1.heap.size) W0 W → W.cell? ⟨b2, o2 + j * 6, none⟩ = some (.int .i64 k') ∧ W.cell? ⟨b2, o2 + j * 6 + 1, none⟩ = some (.int .i64 i') ∧ W.cell? ⟨b2, o2 + j * 6 + 2, none⟩ = some (.float .f64 r') ∧ W.cell? ⟨b2, o2 + j * 6 + 3, none⟩ = some (.string t') ∧ W.cell? ⟨b2, o2 + j * 6 + 4, none⟩ = some (.slice ao2 l'.length q3) ∧ W.cell? ⟨b2, o2 + j * 6 + 5, none⟩ = some (.slice ak2 ks'.length q4) := fun W hW => ⟨by rw [show o2 + j * 6 = o2 + 6 * j + 0 by omega]; exact hc3 W hW 0 (by decide), by rw [show o2 + j * 6 + 1 = o2 + 6 * j + 1 by omega]; exact hc3 W hW 1 (by decide), by rw [show o2 + j * 6 + 2 = o2 + 6 * j + 2 by omega]; exact hc3 W hW 2 (by decide), by rw [show o2 + j * 6 + 3 = o2 + 6 * j + 3 by omega]; exact hc3 W hW 3 (by decide), by rw [show o2 + j * 6 + 4 = o2 + 6 * j + 4 by omega]; exact hc3 W hW 4 (by decide), by rw [show o2 + j * 6 + 5 = o2 + 6 * j + 5 by omega]; exact hc3 W hW 5 (by decide)⟩
      obtain ⟨d0, d1, d2, d3, d4, d5⟩ := hd wr hR.out.kp
      obtain ⟨z, hzz⟩ : ∃ z, Val.mk k' i' r' t' l' ks' = z := ⟨_, rfl⟩
      rw [hzz] at hx hemp htk hGz
      have hcall2H := Lib.hid hcall2
      have hempH := Lib.hid hemp
      have hdH := Lib.hid hd
      have htkH := Lib.hid htk
      have hxH := Lib.hid hx
      have hxeH := Lib.hid hxe
      have hboxH := Lib.hid hboxG
      clear hcall hcall2 hemp hd htk hx hxe hboxG hlwG hc3 hc2 hPL hz hzz hGz
      have hR0 := hR
      by_cases hem : emptyV z = true
      · rw [hem] at hempH
        have hlq : Hid (clnL (redL 2 (l.take (j + 1))) = clnL (redL 2 (l.take j)) ++ [clnV nullV]) := Lib.hid (by rw [htkH.out, redL_snoc, clnL_app]; simp [item, hem, clnL])
        clear hem
        go_wp2_with (first | (go_at_call 12; refine hcall2H.out.mono ?_; rintro e w2 ⟨a3, m3, q5, a4, m4, q6, S2, rfl, hNx, hSS, hk2⟩; have hR2 := Lib.hid (hR.out.keep hk2); have v4a := fun o => cells_of (hboxH.out (w2.alloc o) (hR2.out.alloc o).kp) 4; have hdd := fun o => hdH.out (w2.alloc o) (hR2.out.alloc o).kp; have y0 := fun o => (hdd o).1; have y1 := fun o => (hdd o).2.1; have y2 := fun o => (hdd o).2.2.1; have y3 := fun o => (hdd o).2.2.2.1; have y4 := fun o => (hdd o).2.2.2.2.1; have y5 := fun o => (hdd o).2.2.2.2.2; simp only [List.getElem?_toArray, List.getElem?_cons_zero, List.getElem?_cons_succ] at v4a; have hNxH := Lib.hid hNx; have hSSH := Lib.hid hSS; clear hdd hNx hSS hk2 d0 d1 d2 d3 d4 d5 v4) | (go_at_call 24; refine (hempH.out _ (hR2.out.alloc _).kp).mono ?_; rintro e w3 ⟨rfl, hk3⟩; have hR3 := Lib.hid ((hR2.out.alloc (.cells #[.int .i64 xk, .int .i64 xi, .float .f64 xr, .string xt, .slice a3 m3 q5, .slice a4 m4 q6] 26)).keep hk3); have hk3H := Lib.hid hk3; clear y0 y1 y2 y3 y4 y5 v4a hk3; have hxb := hk3H.out.at (b := w2.heap.size) (by simp) (fun x => x) (heap_alloc_new w2 _); have x0 := cells_of hxb 0; have x1 := cells_of hxb 1; have x2 := cells_of hxb 2; have x3 := cells_of hxb 3; have x4 := cells_of hxb 4; have x5 := cells_of hxb 5; have u0 := free_of hxb 0; have u1 := free_of hxb 1; have u2 := free_of hxb 2; have u3 := free_of hxb 3; have u4 := free_of hxb 4; have u5 := free_of hxb 5; have e4 := cells_of hR3.out.blk 4; simp only [List.getElem?_toArray, List.getElem?_cons_zero, List.getElem?_cons_succ] at x0 x1 x2 x3 x4 x5 e4; have hxbH := Lib.hid hxb; clear hxb; have hn21 : ¬ w2.heap.size = w1.heap.size := (by have := hR2.out.obLt; omega); have hn12 : ¬ w1.heap.size = w2.heap.size := (by omega)) | (at_builtin; generalize hW4 : ((((((w3.setCell ⟨w2.heap.size, 0, none⟩ (.int .i64 1)).setCell ⟨w2.heap.size, 1, none⟩ (.int .i64 0)).setCell ⟨w2.heap.size, 2, none⟩ (.float .f64 0)).setCell ⟨w2.heap.size, 3, none⟩ (.string ⟨#[]⟩)).setCell ⟨w2.heap.size, 4, none⟩ (.slice none 0 0)).setCell ⟨w2.heap.size, 5, none⟩ (.slice none 0 0)) = W4; have hsz : W4.heap.size = w3.heap.size := (by rw [← hW4]; simp [World.setCell]); have hnw : ∀ o, (W4.alloc o).heap[w3.heap.size]? = some o := (fun o => by rw [← hsz]; exact heap_alloc_new W4 o); have hqb : W0.heap.size ≤ w2.heap.size := hR2.out.kp.size; have hq1 : ¬ S w2.heap.size := (fun h => by have := (hR2.out.inS _ h).2; omega); have hq2 : (Value.slice lo ln lc).ownBlock ≠ some w2.heap.size := (fun h => by have := (hR2.out.row.lt _ h).2; omega); have hq3 : (Value.slice ko kn kc).ownBlock ≠ some w2.heap.size := (fun h => by have := (hR2.out.keys.lt _ h).2; omega); have hR4 : Hid (RSt W0 W4 w1.heap.size 6 (.slice lo ln lc) (.slice ko kn kc) (clnL (redL 2 (l.take j))) [] xs S) := Lib.hid (by rw [← hW4]; exact (((((hR3.out.setFar hqb hq1 hq2 hq3).setFar hqb hq1 hq2 hq3).setFar hqb hq1 hq2 hq3).setFar hqb hq1 hq2 hq3).setFar hqb hq1 hq2 hq3).setFar hqb hq1 hq2 hq3); have hszH := Lib.hid hsz; have hnwH := Lib.hid hnw; clear hnw hq1 hq2 hq3 hsz hW4; refine wpList_append_lies _ rfl (.tmp 44) (.tmp 46) 23 rfl W0.heap.size 26 i0 (.agg #[.int .i64 0, .int .i64 0, .float .f64 0, .string ⟨#[]⟩, .slice none 0 0, .slice none 0 0]) 6 88 Tryz.underlying23 hi hz0 hz1 hz2 rfl (by omega) (.slice lo ln lc) ln xs rfl (own_len hlnEH.out (hR4.out.alloc _).row) ⟨w3.heap.size, 0, none⟩ 1 1 [.int .i64 1, .int .i64 0, .float .f64 0, .string ⟨#[]⟩, .slice none 0 0, .slice none 0 0] rfl rfl (World.news_of_block (hnwH.out _)) (six_one _ _ _ _ _ _ _ _ _ _) (by omega) (by unfold maxLen; omega) (by omega) (by have := hR4.out.kp.size; simp at this ⊢; omega) (w3.heap.size + 1) (by simp [hszH.out]) ?_; intro g cap w5 hown5 hgrow5 hat5 hlt5; have hR5 := Lib.hid (RSt.grow (x := clnV nullV) (ls := .slice none 0 0) (kz := .slice none 0 0) hlnEH.out (by rw [clnNull]; rfl) (hR4.out.alloc _) (by rw [clnNull]; exact ⟨⟨none, 0, rfl, .inl rfl⟩, ⟨none, 0, rfl, .inl rfl⟩⟩) hown5 hgrow5 (hat5.imp id fun h => by simp [hszH.out]; omega)); have v0 : w5.cell? ⟨w.heap.size, 0, none⟩ = some (.int .i64 6) := (World.cell?_of_block (hgrow5.block w.heap.size (by have := hR4.out.kp.size; rw [hW0s.out] at this; simp; omega) (fun e => by have := (hR4.out.row.lt _ e.symm).1; rw [hW0s.out] at this; omega))).trans (cells_of (hboxH.out _ (hR4.out.alloc _).kp) 0); have e4b : w5.cell? ⟨w1.heap.size, 4, none⟩ = some (.slice lo ln lc) := (World.cell?_of_block (hgrow5.block w1.heap.size (by have := hR4.out.obLt; simp; omega) hR4.out.far4)).trans (cells_of (hR4.out.alloc _).blk 4); have f4b : w5.frozen? ⟨w1.heap.size, 4, none⟩ = false := (World.frozen?_of_block (hgrow5.block w1.heap.size (by have := hR4.out.obLt; simp; omega) hR4.out.far4)).trans (free_of (hR4.out.alloc _).blk 4); clear hown5 hgrow5 hat5 hlt5 x0 x1 x2 x3 x4 x5 e4 u0 u1 u2 u3 u4 u5))
        have hR6 := hR5.out
        rw [← hlq.out] at hR6
        go_roundg (l.length - (j + 1))
        case measure => omega
        case rel => exact ⟨j + 1, _, _, _, _, by omega, rfl, by go_num, Lib.hid hR6⟩
      · have hemf : emptyV z = false := by simpa using hem
        rw [hemf] at hempH
        have hlq : Hid (clnL (redL 2 (l.take (j + 1))) = clnL (redL 2 (l.take j)) ++ [x]) := Lib.hid (by rw [htkH.out, redL_snoc, clnL_app]; simp [item, hemf, clnL, hxH.out])
        clear hem hemf
        go_wp2_with (first | (go_at_call 12; refine hcall2H.out.mono ?_; rintro e w2 ⟨a3, m3, q5, a4, m4, q6, S2, rfl, hNx, hSS, hk2⟩; have hR2 := Lib.hid (hR.out.keep hk2); have v4a := fun o => cells_of (hboxH.out (w2.alloc o) (hR2.out.alloc o).kp) 4; have hdd := fun o => hdH.out (w2.alloc o) (hR2.out.alloc o).kp; have y0 := fun o => (hdd o).1; have y1 := fun o => (hdd o).2.1; have y2 := fun o => (hdd o).2.2.1; have y3 := fun o => (hdd o).2.2.2.1; have y4 := fun o => (hdd o).2.2.2.2.1; have y5 := fun o => (hdd o).2.2.2.2.2; simp only [List.getElem?_toArray, List.getElem?_cons_zero, List.getElem?_cons_succ] at v4a; have hNxH := Lib.hid hNx; have hSSH := Lib.hid hSS; clear hdd hNx hSS hk2 d0 d1 d2 d3 d4 d5 v4) | (go_at_call 24; refine (hempH.out _ (hR2.out.alloc _).kp).mono ?_; rintro e w3 ⟨rfl, hk3⟩; have hR3 := Lib.hid ((hR2.out.alloc (.cells #[.int .i64 xk, .int .i64 xi, .float .f64 xr, .string xt, .slice a3 m3 q5, .slice a4 m4 q6] 26)).keep hk3); have hk3H := Lib.hid hk3; clear y0 y1 y2 y3 y4 y5 v4a hk3; have hxb := hk3H.out.at (b := w2.heap.size) (by simp) (fun x => x) (heap_alloc_new w2 _); have x0 := cells_of hxb 0; have x1 := cells_of hxb 1; have x2 := cells_of hxb 2; have x3 := cells_of hxb 3; have x4 := cells_of hxb 4; have x5 := cells_of hxb 5; have e4 := cells_of hR3.out.blk 4; simp only [List.getElem?_toArray, List.getElem?_cons_zero, List.getElem?_cons_succ] at x0 x1 x2 x3 x4 x5 e4; have hxbH := Lib.hid hxb; clear hxb; have hSS3 : Hid (∀ k, S2 k → wr.heap.size ≤ k ∧ k < w3.heap.size) := Lib.hid (fun k hk => ⟨(hSSH.out k hk).1, by have := (hSSH.out k hk).2; have h2 := hk3H.out.size; simp at h2; omega⟩); have hNx3 : Hid (QSubs (fun k => S k ∨ S2 k) (w3.alloc (.cells #[.int .i64 xk, .int .i64 xi, .float .f64 xr, .string xt, .slice a3 m3 q5, .slice a4 m4 q6] 26)) x (.slice a3 m3 q5) (.slice a4 m4 q6)) := Lib.hid (hNxH.out.step (fun k hk => (heap_alloc_old _ _ _ (hSS3.out k hk).2).trans ((hk3H.out.block k (by have := (hSSH.out k hk).2; simp; omega) (fun x => x)).trans (heap_alloc_old _ _ _ (hSSH.out k hk).2))) (fun k hk => .inr hk))) | (at_builtin; refine wpList_append_lies _ rfl (.tmp 44) (.tmp 46) 23 rfl W0.heap.size 26 i0 (.agg #[.int .i64 0, .int .i64 0, .float .f64 0, .string ⟨#[]⟩, .slice none 0 0, .slice none 0 0]) 6 88 Tryz.underlying23 hi hz0 hz1 hz2 rfl (by omega) (.slice lo ln lc) ln xs rfl (own_len hlnEH.out (hR3.out.alloc _).row) ⟨w3.heap.size, 0, none⟩ 1 1 [.int .i64 xk, .int .i64 xi, .float .f64 xr, .string xt, .slice a3 m3 q5, .slice a4 m4 q6] rfl rfl (World.news_of_block (heap_alloc_new _ _)) (six_one _ _ _ _ _ _ _ _ _ _) (by omega) (by unfold maxLen; omega) (by omega) (by have := hR3.out.kp.size; simp at this ⊢; omega) (w3.heap.size + 1) (by simp) ?_; intro g cap w5 hown5 hgrow5 hat5 hlt5; have hR5 := Lib.hid (RSt.grow hlnEH.out (by rw [hxeH.out]; rfl) ((hR3.out.more (S2 := S2) (B := wr.heap.size) hSS3.out hR.out.kp.size (fun g hg => (hR.out.row.lt g hg).2) (fun g hg => (hR.out.keys.lt g hg).2)).alloc _) hNx3.out hown5 hgrow5 (hat5.imp id fun h => by simp; omega)); have v0 : w5.cell? ⟨w.heap.size, 0, none⟩ = some (.int .i64 6) := (World.cell?_of_block (hgrow5.block w.heap.size (by have := hR3.out.kp.size; rw [hW0s.out] at this; simp; omega) (fun e => by have := (hR3.out.row.lt _ e.symm).1; rw [hW0s.out] at this; omega))).trans (cells_of (hboxH.out _ (hR3.out.alloc _).kp) 0); have e4b : w5.cell? ⟨w1.heap.size, 4, none⟩ = some (.slice lo ln lc) := (World.cell?_of_block (hgrow5.block w1.heap.size (by have := hR3.out.obLt; simp; omega) hR3.out.far4)).trans (cells_of (hR3.out.alloc _).blk 4); have f4b : w5.frozen? ⟨w1.heap.size, 4, none⟩ = false := (World.frozen?_of_block (hgrow5.block w1.heap.size (by have := hR3.out.obLt; simp; omega) hR3.out.far4)).trans (free_of (hR3.out.alloc _).blk 4); clear hown5 hgrow5 hat5 hlt5 x0 x1 x2 x3 x4 x5 e4))
        have hR6 := hR5.out
        rw [← hlq.out] at hR6
        go_roundg (l.length - (j + 1))
        case measure => omega
        case rel => exact ⟨j + 1, _, _, _, _, by omega, rfl, by go_num, Lib.hid hR6⟩
    · have hje : j = l.length := by omega
      subst hje
      have hrw := hR.out.kp.at (b := w.heap.size + 1) (by rw [hW0s.out]; omega) (by show ¬ w.heap.size + 1 = w1.heap.size; omega) hrs0.out
      have y0 := cells_of hR.out.blk 0
      have y1 := cells_of hR.out.blk 1
      have y2 := cells_of hR.out.blk 2
      have y3 := cells_of hR.out.blk 3
      have y4 := cells_of hR.out.blk 4
      have y5 := cells_of hR.out.blk 5
      have z0 := cells_of hrw 0
      have z1 := cells_of hrw 1
      have z2 := cells_of hrw 2
      have z3 := cells_of hrw 3
      have z4 := cells_of hrw 4
      have z5 := cells_of hrw 5
      have x0 := free_of hrw 0
      have x1 := free_of hrw 1
      have x2 := free_of hrw 2
      have x3 := free_of hrw 3
      have x4 := free_of hrw 4
      have x5 := free_of hrw 5
      simp only [List.getElem?_toArray, List.getElem?_cons_zero, List.getElem?_cons_succ] at y0 y1 y2 y3 y4 y5 z0 z1 z2 z3 z4 z5
      have hkw : Hid (Kp (fun _ => False) w wr) := Lib.hid (((hW0k.out.mono (Y := fun k => k = w1.heap.size) fun _ _ x => x.elim).trans hR.out.kp).mono fun k hk hx => by have hx' : k = w1.heap.size := hx; omega)
      have hrwH := Lib.hid hrw
      clear hrw v4 hboxG hlwG
      go_wp2_with fail
      have hfin := set6 (v0 := .int .i64 6) (v1 := .int .i64 0) (v2 := .float .f64 0) (v3 := .string ⟨#[]⟩) (v4 := .slice lo ln lc) (v5 := .slice ko kn kc) hrwH.out
      have hR7 := hR.out
      rw [List.take_length] at hR7
      obtain ⟨S3, hV3, hK3, hS3⟩ := hR7.out
      have hcl : clnV (redV 2 (.mk 6 i r t l ks)) = .mk 6 0 0 ByteArray.empty (clnL (redL 2 l)) [] := by rw [hks0.out]; simp [clnV, redV]
      have hfar : ∀ k, S3 k → w.heap.size + 1 ≠ k := fun k hk => by have := (hS3 k hk).1; rw [hW0s.out] at this; omega
      refine bodyPost_ret (results_block rfl _ _ _ rfl (run_loadVar_row _ _ _ _ _ _ _ hfin Tryz.underlying26 rfl infoV)) rfl ⟨.slice lo ln lc, .slice ko kn kc, S3, by rw [hcl]; rfl, ?_, ?_, ?_⟩
      · rw [hcl]
        have hall : ∀ k, S3 k → (((((((wr.setCell ⟨w.heap.size + 1, 0, none⟩ (.int .i64 6)).setCell ⟨w.heap.size + 1, 1, none⟩ (.int .i64 0)).setCell ⟨w.heap.size + 1, 2, none⟩ (.float .f64 0)).setCell ⟨w.heap.size + 1, 3, none⟩ (.string ⟨#[]⟩)).setCell ⟨w.heap.size + 1, 4, none⟩ (.slice lo ln lc)).setCell ⟨w.heap.size + 1, 5, none⟩ (.slice ko kn kc))).heap[k]? = wr.heap[k]? := fun k hk =>
          (same_set (Ne.symm (hfar k hk))).trans ((same_set (Ne.symm (hfar k hk))).trans ((same_set (Ne.symm (hfar k hk))).trans ((same_set (Ne.symm (hfar k hk))).trans ((same_set (Ne.symm (hfar k hk))).trans (same_set (Ne.symm (hfar k hk)))))))
        exact ⟨hV3.step hall fun _ x => x, hK3.step hall fun _ x => x⟩
      · intro k hk
        have := hS3 k hk
        rw [hW0s.out] at this
        simp [World.setCell]
        omega
      · exact (((((hkw.out.setCell _ _ _ (.inr (by omega))).setCell _ _ _ (.inr (by omega))).setCell _ _ _ (.inr (by omega))).setCell _ _ _ (.inr (by omega))).setCell _ _ _ (.inr (by omega))).setCell _ _ _ (.inr (by omega))

set_option maxHeartbeats 6400000 in
set_option maxRecDepth 100000 in
theorem Red_7_2 {w : World} {i : Int} {r : Nat} {t : ByteArray} {l : List Val} {ks : List ByteArray} {lb ka : Option Addr} {n1 n2 N : Nat} (hG : Good (.mk 7 i r t l ks)) (hlim : vsz (.mk 7 i r t l ks) ≤ lim) (hS : Subs N w (.mk 7 i r t l ks) (.slice lb l.length n1) (.slice ka ks.length n2)) (hNw : N ≤ w.heap.size)
    (hih : ∀ j (hj : j < l.length) W ls kv, Subs N W l[j] ls kv → N ≤ W.heap.size → Calls Tryz.prog 12 #[.agg (aggV l[j] ls kv), .int .i64 2] W (RedOut 2 W l[j])) :
    Calls Tryz.prog 12 #[.agg #[.int .i64 7, .int .i64 i, .float .f64 r, .string t, .slice lb l.length n1, .slice ka ks.length n2], .int .i64 2] w (RedOut 2 w (.mk 7 i r t l ks)) := by
  have hG0 := hG
  simp only [Good] at hG
  obtain ⟨-, -, -, hkl, -, -, hGL⟩ := hG
  have hll : l.length ≤ lim := by have := vszL_len l; simp only [vsz] at hlim; omega
  have hll' : l.length ≤ 1099511627776 := hll
  have hst := fun (x : Nat) (a : Addr) (w : World) => store_float x a w
  obtain ⟨i0, hi, hz0, hz1, hz2⟩ := info_parts info_val
  obtain ⟨j0, hjs, hy0, hy1, hy2⟩ := info_parts info_str
  have hO : ∀ W, Kp (fun _ => False) w W → Calls Tryz.prog 23 #[.agg #[.int .i64 7, .int .i64 i, .float .f64 r, .string t, .slice lb l.length n1, .slice ka ks.length n2]] W fun e w' => ∃ a1 m1 q1 a2 m2 q2, e = .returned (.agg #[.int .i64 7, .int .i64 0, .float .f64 0, .string ⟨#[]⟩, .slice a1 m1 q1, .slice a2 m2 q2]) ∧ Kp (fun _ => False) W w' := fun W hW =>
    (Only_any _ _ (Nat.le_refl _) hG0 hlim W N _ _ (hS.step (Nat.le_refl _) fun k hk => hW.block k (by omega) (fun x => x)) (by have := hW.size; omega)).mono fun e w' hh => by
      obtain ⟨a1, m1, q1, a2, m2, q2, he, _, hk⟩ := hh
      exact ⟨a1, m1, q1, a2, m2, q2, he, hk⟩
  obtain ⟨⟨_, _, hlb, hL⟩, ⟨_, _, hka, hK⟩⟩ := hS
  injection hlb with e1 _ e2
  subst e1 e2
  injection hka with e1 _ e2
  subst e1 e2
  have hOH := Lib.hid hO
  have hLH := Lib.hid hL
  have hKH := Lib.hid hK
  have hNle := Lib.hid hNw
  have hihH := Lib.hid hih
  have hGLH := Lib.hid hGL
  have hklH := Lib.hid hkl
  clear hO hL hK hNw hih hGL hkl hlim hll hG0
  go_enter Tryz.func12, Tryz.ntmps12
  go_wp2_with (go_at_call 23; refine (hOH.out _ (((Kp.refl _ w).alloc _).alloc _)).mono ?_; rintro e w1 ⟨a1, m1, q1, a2, m2, q2, rfl, hk1⟩; have hbx := hk1.at (b := w.heap.size) (by simp; omega) (fun x => x) fst2; have hrs := hk1.at (b := w.heap.size + 1) (by simp) (fun x => x) snd2; have v0 := fun o => cells_alloc hbx o 0; have v4 := fun o => cells_alloc hbx o 4; simp only [List.getElem?_toArray, List.getElem?_cons_zero, List.getElem?_cons_succ] at v0 v4; have hbxH := Lib.hid hbx; have hrsH := Lib.hid hrs; have hk1H := Lib.hid ((((Kp.refl (fun _ => False) w).alloc _).alloc _).trans hk1); clear hbx hrs hk1)
  obtain ⟨W0, hW0⟩ : ∃ W0, w1.alloc (.cells #[.int .i64 7, .int .i64 0, .float .f64 0, .string ⟨#[]⟩, .slice none 0 0, .slice none 0 0] 26) = W0 := ⟨_, rfl⟩
  have hw1s : w.heap.size + 1 < w1.heap.size := (Array.getElem?_eq_some_iff.1 hrsH.out).1
  have hW0s : Hid (W0.heap.size = w1.heap.size + 1) := Lib.hid (by rw [← hW0]; simp)
  have hW0o : Hid (∀ k, k < w.heap.size → W0.heap[k]? = w.heap[k]?) := Lib.hid (fun k hk => by rw [← hW0, heap_alloc_old _ _ _ (by omega)]; exact hk1H.out.block k hk (fun x => x))
  have hbx0 : Hid (W0.heap[w.heap.size]? = some (.cells #[.int .i64 7, .int .i64 i, .float .f64 r, .string t, .slice lb l.length n1, .slice ka ks.length n2] 26 (0, 0))) := Lib.hid (by rw [← hW0, heap_alloc_old _ _ _ (by omega)]; exact hbxH.out)
  have hrs0 : Hid (W0.heap[w.heap.size + 1]? = some (.cells #[.int .i64 0, .int .i64 0, .float .f64 0, .string ⟨#[]⟩, .slice none 0 0, .slice none 0 0] 26 (0, 0))) := Lib.hid (by rw [← hW0, heap_alloc_old _ _ _ hw1s]; exact hrsH.out)
  have hst0 : Hid (RSt W0 W0 w1.heap.size 7 (.slice none 0 0) (.slice none 0 0) [] [] [] (fun _ => False)) := Lib.hid {
    blk := by rw [← hW0]; exact heap_alloc_new w1 _
    row := World.ownsRow_nil _ _ _ _
    vals := RowV.nil _ _
    keys := World.ownsRow_nil _ _ _ _
    inS := fun k hk => hk.elim
    nrow := fun g _ hk => hk
    nkey := fun g _ hk => hk
    kp := Kp.refl _ _
    lt := by rw [hW0s.out]; omega }
  have hW0k : Hid (Kp (fun _ => False) w W0) := Lib.hid (by rw [← hW0]; exact hk1H.out.alloc _)
  rw [hW0]
  have hne1 : ¬ w.heap.size = w1.heap.size := by omega
  have hne2 : ¬ w1.heap.size = w.heap.size := by omega
  clear hW0 v0 v4 hbxH hrsH hk1H hOH
  go_loopg [24] (l.length) (fun k cc wr => ∃ (j : Nat) (lv kv : Value) (xs : List Value) (S : Nat → Prop), j ≤ l.length ∧ k = l.length - j ∧ cc = .int .i64 j ∧ Hid (RSt W0 wr w1.heap.size 7 lv kv (clnL (redL 2 (l.take j))) (redK 2 (l.take j) (ks.take j)) xs S))
  case atStart => exact ⟨0, _, _, _, _, Nat.zero_le _, rfl, rfl, hst0⟩
  case round =>
    obtain ⟨j, lv, kv, xs, S, hj, hk, rfl, hR⟩ := hrel
    obtain ⟨ln, hlnE⟩ : ∃ ln, (clnL (redL 2 (l.take j))).length = ln := ⟨_, rfl⟩
    obtain ⟨kn, hknE⟩ : ∃ kn, (redK 2 (l.take j) (ks.take j)).length = kn := ⟨_, rfl⟩
    obtain ⟨lo, lc, hlv⟩ : ∃ lo lc, lv = .slice lo ln lc := by
      rw [← hlnE]
      rcases hR.out.row.2 with ⟨e, e2⟩ | ⟨g, cap, cu, e, _⟩
      · exact ⟨none, 0, by rw [e, e2]⟩
      · exact ⟨_, _, e⟩
    obtain ⟨ko, kc, hkv⟩ : ∃ ko kc, kv = .slice ko kn kc := by
      rw [← hknE]
      rcases hR.out.keys.2 with ⟨e, e2⟩ | ⟨g, cap, cu, e, _⟩
      · exact ⟨none, 0, by rw [e, e2]⟩
      · exact ⟨_, _, e⟩
    have hlnle : ln ≤ j := by rw [← hlnE, clnL_len]; exact Nat.le_trans (redL_len 2 _) (by rw [List.length_take]; exact Nat.min_le_left _ _)
    have hlnEH := Lib.hid hlnE
    have hknEH := Lib.hid hknE
    clear hlnE hknE
    subst hlv hkv
    have hboxG : ∀ W, Kp (fun k => k = w1.heap.size) W0 W → W.heap[w.heap.size]? = some (.cells #[.int .i64 7, .int .i64 i, .float .f64 r, .string t, .slice lb l.length n1, .slice ka ks.length n2] 26 (0, 0)) := fun W hW => hW.at (by rw [hW0s.out]; omega) hne1 hbx0.out
    have hlwG : ∀ W, Kp (fun k => k = w1.heap.size) W0 W → ∀ k, k < w.heap.size → W.heap[k]? = w.heap[k]? := fun W hW k hk => (hW.block k (by rw [hW0s.out]; omega) (by show ¬ k = w1.heap.size; omega)).trans (hW0o.out k hk)
    have v4 : wr.cell? ⟨w.heap.size, 4, none⟩ = some (.slice lb l.length n1) := cells_of (hboxG wr hR.out.kp) 4
    by_cases hlt : j < l.length
    · obtain ⟨b2, o2, rfl, hPL⟩ : ∃ b2 o2, lb = some ⟨b2, o2, none⟩ ∧ PList N w l b2 o2 := by
        rcases hLH.out with h | h
        · subst h; simp at hlt
        · exact h
      obtain ⟨ls2, kv2, hS2, hb2, hc2⟩ := (hPL.at j hlt).cells
      have hb2w : b2 < w.heap.size := by have := hNle.out; omega
      have hcall := hihH.out j hlt wr ls2 kv2 (hS2.step (Nat.le_refl _) (fun k hk => hlwG wr hR.out.kp k (by have := hNle.out; omega))) (by have h1 := hR.out.kp.size; have h2 := hNle.out; rw [hW0s.out] at h1; omega)
      have hemp : ∀ W, Kp (fun k => k = w1.heap.size) W0 W → Calls Tryz.prog 24 #[.agg (aggV l[j] ls2 kv2)] W (EmptyOut W (emptyV l[j])) := fun W hW => IsEmpty_any (hGLH.out.at j hlt) (hS2.step (Nat.le_refl _) (fun k hk => hlwG W hW k (by have := hNle.out; omega)))
      have htk : l.take (j + 1) = l.take j ++ [l[j]] := List.take_succ_eq_append_getElem hlt
      have hjk : j < ks.length := by rw [hklH.out trivial]; exact hlt
      have hkt : ks.take (j + 1) = ks.take j ++ [ks[j]] := List.take_succ_eq_append_getElem hjk
      obtain ⟨kb, ko2, rfl, hkbN, hkc⟩ : ∃ b2 o2, ka = some ⟨b2, o2, none⟩ ∧ b2 < N ∧ ∀ (j : Nat) (h : j < ks.length), w.cell? ⟨b2, o2 + j, none⟩ = some (.string ks[j]) := by
        rcases hKH.out with h | h
        · subst h; simp at hjk
        · exact h
      have hkcj := hkc j hjk
      obtain ⟨key, hkey⟩ : ∃ key, ks[j] = key := ⟨_, rfl⟩
      rw [hkey] at hkt hkcj
      have hktH := Lib.hid hkt
      have hknle : kn ≤ j := by rw [← hknEH.out, redK_length]; exact Nat.le_trans (redL_len 2 _) (by rw [List.length_take]; exact Nat.min_le_left _ _)
      have hcKH : Hid (∀ W, Kp (fun k => k = w1.heap.size) W0 W → W.cell? ⟨kb, ko2 + j, none⟩ = some (.string key)) := Lib.hid fun W hW => (World.cell?_of_block (hlwG W hW kb (by have := hNle.out; omega))).trans hkcj
      clear hkt hkcj hkey hkc
      obtain ⟨z, hz⟩ : ∃ z, l[j] = z := ⟨_, rfl⟩
      have hGz : Good z := by rw [← hz]; exact hGLH.out.at j hlt
      rw [hz] at hS2 hcall hemp htk
      have hc3 : ∀ W, Kp (fun k => k = w1.heap.size) W0 W → ∀ q (hq : q < 6), W.cell? ⟨b2, o2 + 6 * j + q, none⟩ = (aggV z ls2 kv2)[q]? := fun W hW q hq => by
        rw [World.cell?_of_block (hlwG W hW b2 hb2w), hc2 q hq, ← hz]
        exact (Array.getElem?_eq_getElem _).symm
      -- what comes of the part
      obtain ⟨x, hx⟩ : ∃ x, clnV (redV 2 z) = x := ⟨_, rfl⟩
      have hxk : ∃ xk xi xr xt xl xks, x = .mk xk xi xr xt xl xks := by cases x; exact ⟨_, _, _, _, _, _, rfl⟩
      obtain ⟨xk, xi, xr, xt, xl, xks, hxe⟩ := hxk
      have hcall2 : Calls Tryz.prog 12 #[.agg (aggV z ls2 kv2), .int .i64 2] wr fun e w' => ∃ a1 m1 q1 a2 m2 q2 S2, e = .returned (.agg #[.int .i64 xk, .int .i64 xi, .float .f64 xr, .string xt, .slice a1 m1 q1, .slice a2 m2 q2]) ∧ QSubs S2 w' x (.slice a1 m1 q1) (.slice a2 m2 q2) ∧ (∀ k, S2 k → wr.heap.size ≤ k ∧ k < w'.heap.size) ∧ Kp (fun _ => False) wr w' := hcall.mono fun e w' hh => by
        obtain ⟨ls, kz, S2, he, hN, hSS, hk⟩ := hh
        rw [hx, hxe] at hN
        obtain ⟨⟨a1, q1, rfl, g1⟩, ⟨a2, q2, rfl, g2⟩⟩ := hN
        refine ⟨a1, _, q1, a2, _, q2, S2, by rw [he, hx, hxe]; rfl, by rw [hxe]; exact ⟨⟨a1, q1, rfl, g1⟩, ⟨a2, q2, rfl, g2⟩⟩, hSS, hk⟩
      obtain ⟨k', i', r', t', l', ks'⟩ := z
      obtain ⟨⟨ao2, q3, rfl, _⟩, ⟨ak2, q4, rfl, _⟩⟩ := hS2
      simp only [aggV] at hcall2 hc3 hemp
      have hd : ∀ W, Kp (fun k => k = w1.heap.size) W0 W → W.cell? ⟨b2, o2 + j * 6, none⟩ = some (.int .i64 k') ∧ W.cell? ⟨b2, o2 + j * 6 + 1, none⟩ = some (.int .i64 i') ∧ W.cell? ⟨b2, o2 + j * 6 + 2, none⟩ = some (.float .f64 r') ∧ W.cell? ⟨b2, o2 + j * 6 + 3, none⟩ = some (.string t') ∧ W.cell? ⟨b2, o2 + j * 6 + 4, none⟩ = some (.slice ao2 l'.length q3) ∧ W.cell? ⟨b2, o2 + j * 6 + 5, none⟩ = some (.slice ak2 ks'.length q4) := fun W hW => ⟨by rw [show o2 + j * 6 = o2 + 6 * j + 0 by omega]; exact hc3 W hW 0 (by decide), by rw [show o2 + j * 6 + 1 = o2 + 6 * j + 1 by omega]; exact hc3 W hW 1 (by decide), by rw [show o2 + j * 6 + 2 = o2 + 6 * j + 2 by omega]; exact hc3 W hW 2 (by decide), by rw [show o2 + j * 6 + 3 = o2 + 6 * j + 3 by omega]; exact hc3 W hW 3 (by decide), by rw [show o2 + j * 6 + 4 = o2 + 6 * j + 4 by omega]; exact hc3 W hW 4 (by decide), by rw [show o2 + j * 6 + 5 = o2 + 6 * j + 5 by omega]; exact hc3 W hW 5 (by decide)⟩
      obtain ⟨d0, d1, d2, d3, d4, d5⟩ := hd wr hR.out.kp
      obtain ⟨z, hzz⟩ : ∃ z, Val.mk k' i' r' t' l' ks' = z := ⟨_, rfl⟩
      rw [hzz] at hx hemp htk hGz
      have hcall2H := Lib.hid hcall2
      have hempH := Lib.hid hemp
      have hdH := Lib.hid hd
      have htkH := Lib.hid htk
      have hxH := Lib.hid hx
      have hxeH := Lib.hid hxe
      have hboxH := Lib.hid hboxG
      clear hcall hcall2 hemp hd htk hx hxe hboxG hlwG hc3 hc2 hPL hz hzz hGz
      have hR0 := hR
      by_cases hem : emptyV z = true
      · rw [hem] at hempH
        have hlq : Hid (clnL (redL 2 (l.take (j + 1))) = clnL (redL 2 (l.take j)) ++ [clnV nullV]) := Lib.hid (by rw [htkH.out, redL_snoc, clnL_app]; simp [item, hem, clnL])
        have hkq : Hid (redK 2 (l.take (j + 1)) (ks.take (j + 1)) = redK 2 (l.take j) (ks.take j) ++ [key]) := Lib.hid (by rw [redK_step 2 htkH.out hktH.out (by omega) (by have := hklH.out trivial; omega)]; simp)
        clear hem
        go_wp2_with (first | (go_at_call 12; refine hcall2H.out.mono ?_; rintro e w2 ⟨a3, m3, q5, a4, m4, q6, S2, rfl, hNx, hSS, hk2⟩; have hR2 := Lib.hid (hR.out.keep hk2); have v4a := fun o => cells_of (hboxH.out (w2.alloc o) (hR2.out.alloc o).kp) 4; have hdd := fun o => hdH.out (w2.alloc o) (hR2.out.alloc o).kp; have y0 := fun o => (hdd o).1; have y1 := fun o => (hdd o).2.1; have y2 := fun o => (hdd o).2.2.1; have y3 := fun o => (hdd o).2.2.2.1; have y4 := fun o => (hdd o).2.2.2.2.1; have y5 := fun o => (hdd o).2.2.2.2.2; simp only [List.getElem?_toArray, List.getElem?_cons_zero, List.getElem?_cons_succ] at v4a; have hNxH := Lib.hid hNx; have hSSH := Lib.hid hSS; clear hdd hNx hSS hk2 d0 d1 d2 d3 d4 d5 v4) | (go_at_call 24; refine (hempH.out _ (hR2.out.alloc _).kp).mono ?_; rintro e w3 ⟨rfl, hk3⟩; have hR3 := Lib.hid ((hR2.out.alloc (.cells #[.int .i64 xk, .int .i64 xi, .float .f64 xr, .string xt, .slice a3 m3 q5, .slice a4 m4 q6] 26)).keep hk3); have hk3H := Lib.hid hk3; clear y0 y1 y2 y3 y4 y5 v4a hk3; have hxb := hk3H.out.at (b := w2.heap.size) (by simp) (fun x => x) (heap_alloc_new w2 _); have x0 := cells_of hxb 0; have x1 := cells_of hxb 1; have x2 := cells_of hxb 2; have x3 := cells_of hxb 3; have x4 := cells_of hxb 4; have x5 := cells_of hxb 5; have u0 := free_of hxb 0; have u1 := free_of hxb 1; have u2 := free_of hxb 2; have u3 := free_of hxb 3; have u4 := free_of hxb 4; have u5 := free_of hxb 5; have e4 := cells_of hR3.out.blk 4; simp only [List.getElem?_toArray, List.getElem?_cons_zero, List.getElem?_cons_succ] at x0 x1 x2 x3 x4 x5 e4; have hxbH := Lib.hid hxb; clear hxb; have hn21 : ¬ w2.heap.size = w1.heap.size := (by have := hR2.out.obLt; omega); have hn12 : ¬ w1.heap.size = w2.heap.size := (by omega)) | (at_builtin; generalize hW4 : ((((((w3.setCell ⟨w2.heap.size, 0, none⟩ (.int .i64 1)).setCell ⟨w2.heap.size, 1, none⟩ (.int .i64 0)).setCell ⟨w2.heap.size, 2, none⟩ (.float .f64 0)).setCell ⟨w2.heap.size, 3, none⟩ (.string ⟨#[]⟩)).setCell ⟨w2.heap.size, 4, none⟩ (.slice none 0 0)).setCell ⟨w2.heap.size, 5, none⟩ (.slice none 0 0)) = W4; have hsz : W4.heap.size = w3.heap.size := (by rw [← hW4]; simp [World.setCell]); have hnw : ∀ o, (W4.alloc o).heap[w3.heap.size]? = some o := (fun o => by rw [← hsz]; exact heap_alloc_new W4 o); have hqb : W0.heap.size ≤ w2.heap.size := hR2.out.kp.size; have hq1 : ¬ S w2.heap.size := (fun h => by have := (hR2.out.inS _ h).2; omega); have hq2 : (Value.slice lo ln lc).ownBlock ≠ some w2.heap.size := (fun h => by have := (hR2.out.row.lt _ h).2; omega); have hq3 : (Value.slice ko kn kc).ownBlock ≠ some w2.heap.size := (fun h => by have := (hR2.out.keys.lt _ h).2; omega); have hR4 : Hid (RSt W0 W4 w1.heap.size 7 (.slice lo ln lc) (.slice ko kn kc) (clnL (redL 2 (l.take j))) (redK 2 (l.take j) (ks.take j)) xs S) := Lib.hid (by rw [← hW4]; exact (((((hR3.out.setFar hqb hq1 hq2 hq3).setFar hqb hq1 hq2 hq3).setFar hqb hq1 hq2 hq3).setFar hqb hq1 hq2 hq3).setFar hqb hq1 hq2 hq3).setFar hqb hq1 hq2 hq3); have hszH := Lib.hid hsz; have hnwH := Lib.hid hnw; clear hnw hq1 hq2 hq3 hsz hW4; refine wpList_append_lies _ rfl (.tmp 44) (.tmp 46) 23 rfl W0.heap.size 26 i0 (.agg #[.int .i64 0, .int .i64 0, .float .f64 0, .string ⟨#[]⟩, .slice none 0 0, .slice none 0 0]) 6 88 Tryz.underlying23 hi hz0 hz1 hz2 rfl (by omega) (.slice lo ln lc) ln xs rfl (own_len hlnEH.out (hR4.out.alloc _).row) ⟨w3.heap.size, 0, none⟩ 1 1 [.int .i64 1, .int .i64 0, .float .f64 0, .string ⟨#[]⟩, .slice none 0 0, .slice none 0 0] rfl rfl (World.news_of_block (hnwH.out _)) (six_one _ _ _ _ _ _ _ _ _ _) (by omega) (by unfold maxLen; omega) (by omega) (by have := hR4.out.kp.size; simp at this ⊢; omega) (w3.heap.size + 1) (by simp [hszH.out]) ?_; intro g cap w5 hown5 hgrow5 hat5 hlt5; have hR5 := Lib.hid (RSt.grow (x := clnV nullV) (ls := .slice none 0 0) (kz := .slice none 0 0) hlnEH.out (by rw [clnNull]; rfl) (hR4.out.alloc _) (by rw [clnNull]; exact ⟨⟨none, 0, rfl, .inl rfl⟩, ⟨none, 0, rfl, .inl rfl⟩⟩) hown5 hgrow5 (hat5.imp id fun h => by simp [hszH.out]; omega)); have v0 : w5.cell? ⟨w.heap.size, 0, none⟩ = some (.int .i64 7) := (World.cell?_of_block (hgrow5.block w.heap.size (by have := hR4.out.kp.size; rw [hW0s.out] at this; simp; omega) (fun e => by have := (hR4.out.row.lt _ e.symm).1; rw [hW0s.out] at this; omega))).trans (cells_of (hboxH.out _ (hR4.out.alloc _).kp) 0); have e4b : w5.cell? ⟨w1.heap.size, 4, none⟩ = some (.slice lo ln lc) := (World.cell?_of_block (hgrow5.block w1.heap.size (by have := hR4.out.obLt; simp; omega) hR4.out.far4)).trans (cells_of (hR4.out.alloc _).blk 4); have f4b : w5.frozen? ⟨w1.heap.size, 4, none⟩ = false := (World.frozen?_of_block (hgrow5.block w1.heap.size (by have := hR4.out.obLt; simp; omega) hR4.out.far4)).trans (free_of (hR4.out.alloc _).blk 4); clear hown5 hgrow5 hat5 hlt5 x0 x1 x2 x3 x4 x5 e4 u0 u1 u2 u3 u4 u5))
        generalize w5.setCell ⟨w1.heap.size, 4, none⟩ (.slice (some ⟨g, 0, none⟩) (ln + 1) cap) = W5 at hR5 ⊢
        clear v0 e4b f4b
        have v5 : W5.cell? ⟨w.heap.size, 5, none⟩ = some (.slice (some ⟨kb, ko2, none⟩) ks.length n2) := cells_of (hboxH.out _ hR5.out.kp) 5
        have c5 : W5.cell? ⟨kb, ko2 + j, none⟩ = some (.string key) := hcKH.out _ hR5.out.kp
        have e5 : W5.cell? ⟨w1.heap.size, 5, none⟩ = some (.slice ko kn kc) := cells_of hR5.out.blk 5
        have e5a := fun o => cells_alloc hR5.out.blk o 5
        simp only [List.getElem?_toArray, List.getElem?_cons_zero, List.getElem?_cons_succ] at e5a
        have hR5 := Lib.hid hR5.out.drew
        go_region_law (refine step_append_lies _ rfl (.tmp 53) (.tmp 59) 24 rfl W0.heap.size 9 j0 (.string ⟨#[]⟩) 1 16 Tryz.underlying24 hjs hy0 hy1 hy2 rfl (by omega) (.slice ko kn kc) kn ((redK 2 (l.take j) (ks.take j)).map Value.string) (by simp [Act.eval]) (by exact (own_len hknEH.out (hR5.out.alloc _).keys)) ⟨W5.heap.size, 0, none⟩ 1 1 [.string key] (by simp [Act.eval]) rfl (World.news_of_block (by exact heap_alloc_new _ _)) (str_oneK key) (by omega) (by unfold maxLen; omega) (by omega) (by have := hR5.out.kp.size; simp at this ⊢; omega) _ rfl ?_; intro gk2 capk w8 hown8 hgrow8 hat8 hlt8; have hR8 := Lib.hid (RSt.key hknEH.out (hR5.out.alloc (.cells #[.string key] 9)) hown8 hgrow8 (hat8.imp id fun h => Nat.le_of_eq h.symm)); have e5b : w8.cell? ⟨w1.heap.size, 5, none⟩ = some (.slice ko kn kc) := (World.cell?_of_block (hgrow8.block w1.heap.size (by have := hR5.out.obLt; simp at this ⊢; omega) hR5.out.far5)).trans (cells_of (hR5.out.alloc _).blk 5); have f5b : w8.frozen? ⟨w1.heap.size, 5, none⟩ = false := (World.frozen?_of_block (hgrow8.block w1.heap.size (by have := hR5.out.obLt; simp at this ⊢; omega) hR5.out.far5)).trans (free_of (hR5.out.alloc _).blk 5); clear hown8 hgrow8 hat8 hlt8)
        all_goals
          generalize w8.setCell ⟨w1.heap.size, 5, none⟩ (.slice (some ⟨gk2, 0, none⟩) (kn + 1) capk) = W8 at hR8 ⊢
          clear e5b f5b e5 e5a c5 v5
          go_wp2_with fail
          have hR6 := hR8.out
          rw [← hlq.out, ← hkq.out] at hR6
          go_roundg (l.length - (j + 1))
          case measure => omega
          case rel => exact ⟨j + 1, _, _, _, _, by omega, rfl, by go_num, Lib.hid hR6⟩
      · have hemf : emptyV z = false := by simpa using hem
        rw [hemf] at hempH
        have hlq : Hid (clnL (redL 2 (l.take (j + 1))) = clnL (redL 2 (l.take j)) ++ [x]) := Lib.hid (by rw [htkH.out, redL_snoc, clnL_app]; simp [item, hemf, clnL, hxH.out])
        have hkq : Hid (redK 2 (l.take (j + 1)) (ks.take (j + 1)) = redK 2 (l.take j) (ks.take j) ++ [key]) := Lib.hid (by rw [redK_step 2 htkH.out hktH.out (by omega) (by have := hklH.out trivial; omega)]; simp)
        clear hem hemf
        go_wp2_with (first | (go_at_call 12; refine hcall2H.out.mono ?_; rintro e w2 ⟨a3, m3, q5, a4, m4, q6, S2, rfl, hNx, hSS, hk2⟩; have hR2 := Lib.hid (hR.out.keep hk2); have v4a := fun o => cells_of (hboxH.out (w2.alloc o) (hR2.out.alloc o).kp) 4; have hdd := fun o => hdH.out (w2.alloc o) (hR2.out.alloc o).kp; have y0 := fun o => (hdd o).1; have y1 := fun o => (hdd o).2.1; have y2 := fun o => (hdd o).2.2.1; have y3 := fun o => (hdd o).2.2.2.1; have y4 := fun o => (hdd o).2.2.2.2.1; have y5 := fun o => (hdd o).2.2.2.2.2; simp only [List.getElem?_toArray, List.getElem?_cons_zero, List.getElem?_cons_succ] at v4a; have hNxH := Lib.hid hNx; have hSSH := Lib.hid hSS; clear hdd hNx hSS hk2 d0 d1 d2 d3 d4 d5 v4) | (go_at_call 24; refine (hempH.out _ (hR2.out.alloc _).kp).mono ?_; rintro e w3 ⟨rfl, hk3⟩; have hR3 := Lib.hid ((hR2.out.alloc (.cells #[.int .i64 xk, .int .i64 xi, .float .f64 xr, .string xt, .slice a3 m3 q5, .slice a4 m4 q6] 26)).keep hk3); have hk3H := Lib.hid hk3; clear y0 y1 y2 y3 y4 y5 v4a hk3; have hxb := hk3H.out.at (b := w2.heap.size) (by simp) (fun x => x) (heap_alloc_new w2 _); have x0 := cells_of hxb 0; have x1 := cells_of hxb 1; have x2 := cells_of hxb 2; have x3 := cells_of hxb 3; have x4 := cells_of hxb 4; have x5 := cells_of hxb 5; have e4 := cells_of hR3.out.blk 4; simp only [List.getElem?_toArray, List.getElem?_cons_zero, List.getElem?_cons_succ] at x0 x1 x2 x3 x4 x5 e4; have hxbH := Lib.hid hxb; clear hxb; have hSS3 : Hid (∀ k, S2 k → wr.heap.size ≤ k ∧ k < w3.heap.size) := Lib.hid (fun k hk => ⟨(hSSH.out k hk).1, by have := (hSSH.out k hk).2; have h2 := hk3H.out.size; simp at h2; omega⟩); have hNx3 : Hid (QSubs (fun k => S k ∨ S2 k) (w3.alloc (.cells #[.int .i64 xk, .int .i64 xi, .float .f64 xr, .string xt, .slice a3 m3 q5, .slice a4 m4 q6] 26)) x (.slice a3 m3 q5) (.slice a4 m4 q6)) := Lib.hid (hNxH.out.step (fun k hk => (heap_alloc_old _ _ _ (hSS3.out k hk).2).trans ((hk3H.out.block k (by have := (hSSH.out k hk).2; simp; omega) (fun x => x)).trans (heap_alloc_old _ _ _ (hSSH.out k hk).2))) (fun k hk => .inr hk))) | (at_builtin; refine wpList_append_lies _ rfl (.tmp 44) (.tmp 46) 23 rfl W0.heap.size 26 i0 (.agg #[.int .i64 0, .int .i64 0, .float .f64 0, .string ⟨#[]⟩, .slice none 0 0, .slice none 0 0]) 6 88 Tryz.underlying23 hi hz0 hz1 hz2 rfl (by omega) (.slice lo ln lc) ln xs rfl (own_len hlnEH.out (hR3.out.alloc _).row) ⟨w3.heap.size, 0, none⟩ 1 1 [.int .i64 xk, .int .i64 xi, .float .f64 xr, .string xt, .slice a3 m3 q5, .slice a4 m4 q6] rfl rfl (World.news_of_block (heap_alloc_new _ _)) (six_one _ _ _ _ _ _ _ _ _ _) (by omega) (by unfold maxLen; omega) (by omega) (by have := hR3.out.kp.size; simp at this ⊢; omega) (w3.heap.size + 1) (by simp) ?_; intro g cap w5 hown5 hgrow5 hat5 hlt5; have hR5 := Lib.hid (RSt.grow hlnEH.out (by rw [hxeH.out]; rfl) ((hR3.out.more (S2 := S2) (B := wr.heap.size) hSS3.out hR.out.kp.size (fun g hg => (hR.out.row.lt g hg).2) (fun g hg => (hR.out.keys.lt g hg).2)).alloc _) hNx3.out hown5 hgrow5 (hat5.imp id fun h => by simp; omega)); have v0 : w5.cell? ⟨w.heap.size, 0, none⟩ = some (.int .i64 7) := (World.cell?_of_block (hgrow5.block w.heap.size (by have := hR3.out.kp.size; rw [hW0s.out] at this; simp; omega) (fun e => by have := (hR3.out.row.lt _ e.symm).1; rw [hW0s.out] at this; omega))).trans (cells_of (hboxH.out _ (hR3.out.alloc _).kp) 0); have e4b : w5.cell? ⟨w1.heap.size, 4, none⟩ = some (.slice lo ln lc) := (World.cell?_of_block (hgrow5.block w1.heap.size (by have := hR3.out.obLt; simp; omega) hR3.out.far4)).trans (cells_of (hR3.out.alloc _).blk 4); have f4b : w5.frozen? ⟨w1.heap.size, 4, none⟩ = false := (World.frozen?_of_block (hgrow5.block w1.heap.size (by have := hR3.out.obLt; simp; omega) hR3.out.far4)).trans (free_of (hR3.out.alloc _).blk 4); clear hown5 hgrow5 hat5 hlt5 x0 x1 x2 x3 x4 x5 e4))
        generalize w5.setCell ⟨w1.heap.size, 4, none⟩ (.slice (some ⟨g, 0, none⟩) (ln + 1) cap) = W5 at hR5 ⊢
        clear v0 e4b f4b
        have v5 : W5.cell? ⟨w.heap.size, 5, none⟩ = some (.slice (some ⟨kb, ko2, none⟩) ks.length n2) := cells_of (hboxH.out _ hR5.out.kp) 5
        have c5 : W5.cell? ⟨kb, ko2 + j, none⟩ = some (.string key) := hcKH.out _ hR5.out.kp
        have e5 : W5.cell? ⟨w1.heap.size, 5, none⟩ = some (.slice ko kn kc) := cells_of hR5.out.blk 5
        have e5a := fun o => cells_alloc hR5.out.blk o 5
        simp only [List.getElem?_toArray, List.getElem?_cons_zero, List.getElem?_cons_succ] at e5a
        have hR5 := Lib.hid hR5.out.drew
        go_region_law (refine step_append_lies _ rfl (.tmp 53) (.tmp 59) 24 rfl W0.heap.size 9 j0 (.string ⟨#[]⟩) 1 16 Tryz.underlying24 hjs hy0 hy1 hy2 rfl (by omega) (.slice ko kn kc) kn ((redK 2 (l.take j) (ks.take j)).map Value.string) (by simp [Act.eval]) (by exact (own_len hknEH.out (hR5.out.alloc _).keys)) ⟨W5.heap.size, 0, none⟩ 1 1 [.string key] (by simp [Act.eval]) rfl (World.news_of_block (by exact heap_alloc_new _ _)) (str_oneK key) (by omega) (by unfold maxLen; omega) (by omega) (by have := hR5.out.kp.size; simp at this ⊢; omega) _ rfl ?_; intro gk2 capk w8 hown8 hgrow8 hat8 hlt8; have hR8 := Lib.hid (RSt.key hknEH.out (hR5.out.alloc (.cells #[.string key] 9)) hown8 hgrow8 (hat8.imp id fun h => Nat.le_of_eq h.symm)); have e5b : w8.cell? ⟨w1.heap.size, 5, none⟩ = some (.slice ko kn kc) := (World.cell?_of_block (hgrow8.block w1.heap.size (by have := hR5.out.obLt; simp at this ⊢; omega) hR5.out.far5)).trans (cells_of (hR5.out.alloc _).blk 5); have f5b : w8.frozen? ⟨w1.heap.size, 5, none⟩ = false := (World.frozen?_of_block (hgrow8.block w1.heap.size (by have := hR5.out.obLt; simp at this ⊢; omega) hR5.out.far5)).trans (free_of (hR5.out.alloc _).blk 5); clear hown8 hgrow8 hat8 hlt8)
        all_goals
          generalize w8.setCell ⟨w1.heap.size, 5, none⟩ (.slice (some ⟨gk2, 0, none⟩) (kn + 1) capk) = W8 at hR8 ⊢
          clear e5b f5b e5 e5a c5 v5
          go_wp2_with fail
          have hR6 := hR8.out
          rw [← hlq.out, ← hkq.out] at hR6
          go_roundg (l.length - (j + 1))
          case measure => omega
          case rel => exact ⟨j + 1, _, _, _, _, by omega, rfl, by go_num, Lib.hid hR6⟩
    · have hje : j = l.length := by omega
      subst hje
      have hrw := hR.out.kp.at (b := w.heap.size + 1) (by rw [hW0s.out]; omega) (by show ¬ w.heap.size + 1 = w1.heap.size; omega) hrs0.out
      have y0 := cells_of hR.out.blk 0
      have y1 := cells_of hR.out.blk 1
      have y2 := cells_of hR.out.blk 2
      have y3 := cells_of hR.out.blk 3
      have y4 := cells_of hR.out.blk 4
      have y5 := cells_of hR.out.blk 5
      have z0 := cells_of hrw 0
      have z1 := cells_of hrw 1
      have z2 := cells_of hrw 2
      have z3 := cells_of hrw 3
      have z4 := cells_of hrw 4
      have z5 := cells_of hrw 5
      have x0 := free_of hrw 0
      have x1 := free_of hrw 1
      have x2 := free_of hrw 2
      have x3 := free_of hrw 3
      have x4 := free_of hrw 4
      have x5 := free_of hrw 5
      simp only [List.getElem?_toArray, List.getElem?_cons_zero, List.getElem?_cons_succ] at y0 y1 y2 y3 y4 y5 z0 z1 z2 z3 z4 z5
      have hkw : Hid (Kp (fun _ => False) w wr) := Lib.hid (((hW0k.out.mono (Y := fun k => k = w1.heap.size) fun _ _ x => x.elim).trans hR.out.kp).mono fun k hk hx => by have hx' : k = w1.heap.size := hx; omega)
      have hrwH := Lib.hid hrw
      clear hrw v4 hboxG hlwG
      go_wp2_with fail
      have hfin := set6 (v0 := .int .i64 7) (v1 := .int .i64 0) (v2 := .float .f64 0) (v3 := .string ⟨#[]⟩) (v4 := .slice lo ln lc) (v5 := .slice ko kn kc) hrwH.out
      have hR7 := hR.out
      rw [List.take_length, ← hklH.out trivial, List.take_length] at hR7
      obtain ⟨S3, hV3, hK3, hS3⟩ := hR7.out
      have hcl : clnV (redV 2 (.mk 7 i r t l ks)) = .mk 7 0 0 ByteArray.empty (clnL (redL 2 l)) (redK 2 l ks) := by simp [clnV, redV]
      have hfar : ∀ k, S3 k → w.heap.size + 1 ≠ k := fun k hk => by have := (hS3 k hk).1; rw [hW0s.out] at this; omega
      refine bodyPost_ret (results_block rfl _ _ _ rfl (run_loadVar_row _ _ _ _ _ _ _ hfin Tryz.underlying26 rfl infoV)) rfl ⟨.slice lo ln lc, .slice ko kn kc, S3, by rw [hcl]; rfl, ?_, ?_, ?_⟩
      · rw [hcl]
        have hall : ∀ k, S3 k → (((((((wr.setCell ⟨w.heap.size + 1, 0, none⟩ (.int .i64 7)).setCell ⟨w.heap.size + 1, 1, none⟩ (.int .i64 0)).setCell ⟨w.heap.size + 1, 2, none⟩ (.float .f64 0)).setCell ⟨w.heap.size + 1, 3, none⟩ (.string ⟨#[]⟩)).setCell ⟨w.heap.size + 1, 4, none⟩ (.slice lo ln lc)).setCell ⟨w.heap.size + 1, 5, none⟩ (.slice ko kn kc))).heap[k]? = wr.heap[k]? := fun k hk =>
          (same_set (Ne.symm (hfar k hk))).trans ((same_set (Ne.symm (hfar k hk))).trans ((same_set (Ne.symm (hfar k hk))).trans ((same_set (Ne.symm (hfar k hk))).trans ((same_set (Ne.symm (hfar k hk))).trans (same_set (Ne.symm (hfar k hk)))))))
        exact ⟨hV3.step hall fun _ x => x, hK3.step hall fun _ x => x⟩
      · intro k hk
        have := hS3 k hk
        rw [hW0s.out] at this
        simp [World.setCell]
        omega
      · exact (((((hkw.out.setCell _ _ _ (.inr (by omega))).setCell _ _ _ (.inr (by omega))).setCell _ _ _ (.inr (by omega))).setCell _ _ _ (.inr (by omega))).setCell _ _ _ (.inr (by omega))).setCell _ _ _ (.inr (by omega))

end Go.Proofs.YtokmkkkanphihaaGreatRDoor
