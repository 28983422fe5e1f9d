/- spec.Reduced of any value, way 2 (written by genRw.py). -/
import Derived.Test.YtokmkkkanphihaaGreatRDoorRedC
import Derived.Test.YtokmkkkanphihaaGreatRDoorYLawW
import Derived.Test.YtokmkkkanphihaaGreatRDoorYWrW
import Derived.Test.YtokmkkkanphihaaGreatRDoorBare
import Derived.Test.YtokmkkkanphihaaGreatRDoorCard
namespace Go.Proofs.YtokmkkkanphihaaGreatRDoor
open Go.RowKit Go.Sort

theorem Reduced2_any (n : Nat) : ∀ v : Val, vsz v ≤ n → Good v → vsz v ≤ lim → ∀ (w : World) (N : Nat) (ls kv : Value), Subs N w v ls kv → N ≤ w.heap.size →
    Calls Tryz.prog 12 #[.agg (aggV v ls kv), .int .i64 2] w (RedOut 2 w v) := by
  induction n with
  | zero => intro v hv; cases v; simp [vsz] at hv
  | succ n ih =>
    intro v hv hG hlim w N ls kv hS hNw
    obtain ⟨k, i, r, t, l, ks⟩ := v
    have hG0 := hG
    have hS0 := hS
    have hlim0 := hlim
    simp only [Good] at hG
    obtain ⟨⟨hk1, hk7⟩, _, _, hkl, hl6, hk7', hGL⟩ := hG
    simp only [vsz] at hv hlim
    have hvl := vszL_len l
    obtain ⟨⟨ao, c, rfl, hL⟩, ⟨ako, ck, rfl, _⟩⟩ := hS
    have hih : ∀ j (hj : j < l.length) W ls kv, Subs N W l[j] ls kv → N ≤ W.heap.size → Calls Tryz.prog 12 #[.agg (aggV l[j] ls kv), .int .i64 2] W (RedOut 2 W l[j]) := fun j hj W ls kv h1 h2 =>
      ih l[j] (by have := vszL_at j hj; omega) (hGL.at j hj) (by have := vszL_at j hj; omega) W N ls kv h1 h2
    have hcases : k = 1 ∨ k = 2 ∨ k = 3 ∨ k = 4 ∨ k = 5 ∨ k = 6 ∨ k = 7 := by omega
    rcases hcases with rfl | rfl | rfl | rfl | rfl | rfl | rfl
    · obtain rfl : l = [] := hl6 (by decide)
      obtain rfl : ks = [] := hk7' (by decide)
      have hcl : clnV (redV 2 (.mk 1 i r t [] [])) = .mk 1 0 0 ByteArray.empty [] [] := by simp [clnV, redV, redL, clnL]
      refine (Red_1 fun W => Only_1).mono fun e w' hh => ?_
      exact ⟨.slice none 0 0, .slice none 0 0, fun _ => False, by rw [hcl]; exact hh.1, by rw [hcl]; exact ⟨⟨none, 0, rfl, .inl rfl⟩, ⟨none, 0, rfl, .inl rfl⟩⟩, fun k hk => hk.elim, hh.2⟩
    · obtain rfl : l = [] := hl6 (by decide)
      obtain rfl : ks = [] := hk7' (by decide)
      have hcl : clnV (redV 2 (.mk 2 i r t [] [])) = .mk 2 i 0 ByteArray.empty [] [] := by simp [clnV, redV, redL, clnL]
      refine (Red_2 fun W => Only_2).mono fun e w' hh => ?_
      exact ⟨.slice none 0 0, .slice none 0 0, fun _ => False, by rw [hcl]; exact hh.1, by rw [hcl]; exact ⟨⟨none, 0, rfl, .inl rfl⟩, ⟨none, 0, rfl, .inl rfl⟩⟩, fun k hk => hk.elim, hh.2⟩
    · obtain rfl : l = [] := hl6 (by decide)
      obtain rfl : ks = [] := hk7' (by decide)
      have hcl : clnV (redV 2 (.mk 3 i r t [] [])) = .mk 3 i 0 ByteArray.empty [] [] := by simp [clnV, redV, redL, clnL]
      refine (Red_3 fun W => Only_3).mono fun e w' hh => ?_
      exact ⟨.slice none 0 0, .slice none 0 0, fun _ => False, by rw [hcl]; exact hh.1, by rw [hcl]; exact ⟨⟨none, 0, rfl, .inl rfl⟩, ⟨none, 0, rfl, .inl rfl⟩⟩, fun k hk => hk.elim, hh.2⟩
    · obtain rfl : l = [] := hl6 (by decide)
      obtain rfl : ks = [] := hk7' (by decide)
      have hcl : clnV (redV 2 (.mk 4 i r t [] [])) = .mk 4 0 r ByteArray.empty [] [] := by simp [clnV, redV, redL, clnL]
      refine (Red_4 fun W => Only_4).mono fun e w' hh => ?_
      exact ⟨.slice none 0 0, .slice none 0 0, fun _ => False, by rw [hcl]; exact hh.1, by rw [hcl]; exact ⟨⟨none, 0, rfl, .inl rfl⟩, ⟨none, 0, rfl, .inl rfl⟩⟩, fun k hk => hk.elim, hh.2⟩
    · obtain rfl : l = [] := hl6 (by decide)
      obtain rfl : ks = [] := hk7' (by decide)
      have hcl : clnV (redV 2 (.mk 5 i r t [] [])) = .mk 5 0 0 t [] [] := by simp [clnV, redV, redL, clnL]
      refine (Red_5 fun W => Only_5).mono fun e w' hh => ?_
      exact ⟨.slice none 0 0, .slice none 0 0, fun _ => False, by rw [hcl]; exact hh.1, by rw [hcl]; exact ⟨⟨none, 0, rfl, .inl rfl⟩, ⟨none, 0, rfl, .inl rfl⟩⟩, fun k hk => hk.elim, hh.2⟩
    · exact Red_6_2 hG0 hlim0 hS0 hNw hih
    · exact Red_7_2 hG0 hlim0 hS0 hNw hih
end Go.Proofs.YtokmkkkanphihaaGreatRDoor

/- laws.FnNulled (written by genLO.py). -/
namespace Go.Proofs.YtokmkkkanphihaaGreatRDoor
open Go.RowKit Go.Sort

set_option maxHeartbeats 3200000 in
set_option maxRecDepth 100000 in
theorem FnNulled_any {w : World} {v : Val} {ls kv : Value} (hT : Tabs w.heap.size w) (hS : Subs w.heap.size w v ls kv) (hW : WfV v) (hroom : cost v + 3000 ≤ lim) :
    Calls Tryz.prog 3 #[.agg (aggV v ls kv)] w (Yes w) := by
  have hvz : vsz v ≤ lim := by have := vsz_cost v; omega
  obtain ⟨x, hx⟩ : ∃ x, clnV (redV 2 v) = x := ⟨_, rfl⟩
  have hfit : ∀ W, Kp (fun _ => False) w W → Calls Tryz.prog 7 #[.agg (aggV v ls kv)] W fun e w' => SomeB e ∧ Kp (fun _ => False) W w' := fun W hk => Fits3_any (N := w.heap.size) (hS.step (Nat.le_refl _) (kp_low hk (Nat.le_refl _))) hk.size hW
  have hisw : ∀ W, Kp (fun _ => False) w W → Calls Tryz.prog 8 #[.agg (aggV v ls kv)] W (Says (WrittenV v) W) := fun W hk => isWritten_any (N := w.heap.size) (hS.step (Nat.le_refl _) (kp_low hk (Nat.le_refl _))) hk.size hW hvz
  have hwr : ∀ W, Kp (fun _ => False) w W → WrittenV v ∧ NBare v → 6 ≤ kindV v → Calls Tryz.prog 10 #[.agg (aggV v ls kv), .int .i64 2] W (WrOut W (valT x)) := fun W hk hw h6 => by
    have hG := Good_of 12 v hw.1.2.1 hw.1.2.2 hW
    have h1 := hS.step hk.size (kp_low hk (Nat.le_refl _))
    have h2 := (hT.step (kp_low hk (Nat.le_refl _)) hk.size).grow hk.size (Nat.le_refl _)
    have hCl := Clean2_of 12 v hw.1.2.1 hw.2
    have hred := Good_red 2 v hG
    rw [← hx, valT_cln _ hred]
    obtain ⟨k, i, r, t, l, ks⟩ := v
    have hk67 : k = 6 ∨ k = 7 := by
      have h7 := hG
      simp only [Good] at h7
      have h8 : 6 ≤ k := h6
      omega
    exact Written_way2 h2 h1 hG hCl hk67 (by omega)
  have hrd : ∀ W, Kp (fun _ => False) w W → WrittenV v ∧ NBare v → Calls Tryz.prog 12 #[.agg (aggV v ls kv), .int .i64 2] W fun e w' => ∃ ls2 kv2, e = .returned (.agg (aggV x ls2 kv2)) ∧ Subs w'.heap.size w' x ls2 kv2 ∧ Kp (fun _ => False) W w' := fun W hk hw => by
    have hG := Good_of 12 v hw.1.2.1 hw.1.2.2 hW
    refine (Reduced2_any _ v (Nat.le_refl _) hG hvz W W.heap.size ls kv (hS.step hk.size (kp_low hk (Nat.le_refl _))) (Nat.le_refl _)).mono fun e w' hh => ?_
    obtain ⟨ls2, kv2, S, he, hq, hSS, hk2⟩ := hh
    rw [hx] at he hq
    exact ⟨ls2, kv2, he, hq.down fun k hk => (hSS k hk).2, hk2⟩
  have hme : ∀ W ls2 kv2, Subs W.heap.size W x ls2 kv2 → WrittenV v ∧ NBare v → Calls Tryz.prog 11 #[.string ⟨(valT x).toArray⟩, .agg (aggV x ls2 kv2)] W (Yes W) := fun W ls2 kv2 hS2 hw => by
    have hG := Good_of 12 v hw.1.2.1 hw.1.2.2 hW
    have h2 := valT_len 2 v hG
    have hred := Good_red 2 v hG
    have h3 := valT_cln _ hred
    have h4 := vsz_cln (redV 2 v)
    have h5 := vsz_red 2 v
    rw [hx] at h3 h4
    refine means_any rfl (hx ▸ Good_cln _ hred) (hx ▸ Deep_cln _ _ (Deep_red 2 _ _ (Deep_of 12 v hw.1.2.1))) (hx ▸ Utf8_cln _ (Utf8_red 2 _ (Utf8_of 12 v hw.1.2.1))) (by rw [h3]; omega) (by omega) hS2
  have hbar : ∀ W, Kp (fun _ => False) w W → Calls Tryz.prog 9 #[.agg (aggV v ls kv)] W (SaysNo (NBare v) W) := fun W hk => HasBare_any _ v W w.heap.size ls kv (Nat.le_refl _) (hS.step (Nat.le_refl _) (kp_low hk (Nat.le_refl _))) hk.size hvz
  have hbarH := Lib.hid hbar
  have hfitH := Lib.hid hfit
  have hiswH := Lib.hid hisw
  have hwrH := Lib.hid hwr
  have hrdH := Lib.hid hrd
  have hmeH := Lib.hid hme
  obtain ⟨k, i, r, t, l, ks⟩ := v
  obtain ⟨⟨ao, c, rfl, _⟩, ⟨ako, ck, rfl, _⟩⟩ := hS
  clear hbar hfit hisw hwr hrd hme hT hW hroom hvz hx
  simp only [aggV] at hfitH hiswH hbarH hwrH ⊢
  have hrdH2 : Hid (∀ W, Kp (fun _ => False) w W → WrittenV (.mk k i r t l ks) ∧ NBare (.mk k i r t l ks) → Calls Tryz.prog 12 #[.agg #[.int .i64 k, .int .i64 i, .float .f64 r, .string t, .slice ao l.length c, .slice ako ks.length ck], .int .i64 2] W fun e w' => ∃ ls2 kv2, e = .returned (.agg (aggV x ls2 kv2)) ∧ Subs w'.heap.size w' x ls2 kv2 ∧ Kp (fun _ => False) W w') := hrdH
  clear hrdH
  generalize hTx : (⟨(valT x).toArray⟩ : ByteArray) = Tx at hmeH
  have hwr2 : ∀ W, Kp (fun _ => False) w W → WrittenV (.mk k i r t l ks) ∧ NBare (.mk k i r t l ks) → 6 ≤ k → Calls Tryz.prog 10 #[.agg #[.int .i64 k, .int .i64 i, .float .f64 r, .string t, .slice ao l.length c, .slice ako ks.length ck], .int .i64 2] W fun e w' => e = .returned (.tuple #[.string Tx, .bool true]) ∧ Kp (fun _ => False) W w' := fun W h1 h2 h3 => by rw [← hTx]; exact hwrH.out W h1 h2 h3
  have hwr2H := Lib.hid hwr2
  have hA : Hid (Kp (fun _ => False) w (w.alloc (.cells #[.int .i64 k, .int .i64 i, .float .f64 r, .string t, .slice ao l.length c, .slice ako ks.length ck] 26))) := Lib.hid ((Kp.refl _ w).alloc _)
  clear hTx hwrH hwr2
  by_cases hk6 : k < 6
  · go_enter Tryz.func3, Tryz.ntmps3
    go_wp2_with (go_at_call 7; refine (hfitH.out _ hA.out).mono ?_; rintro e w2 ⟨⟨bf, rfl⟩, hk2⟩; have hk2H := Lib.hid hk2; clear hk2; have m0 : w2.cell? ⟨w.heap.size, 0, none⟩ = some (.int .i64 k) := (by rw [kp_cell hk2H.out (by simp), World.cell?_alloc_new]; rfl); have m1 : w2.cell? ⟨w.heap.size, 1, none⟩ = some (.int .i64 i) := (by rw [kp_cell hk2H.out (by simp), World.cell?_alloc_new]; rfl); have m2 : w2.cell? ⟨w.heap.size, 2, none⟩ = some (.float .f64 r) := (by rw [kp_cell hk2H.out (by simp), World.cell?_alloc_new]; rfl); have m3 : w2.cell? ⟨w.heap.size, 3, none⟩ = some (.string t) := (by rw [kp_cell hk2H.out (by simp), World.cell?_alloc_new]; rfl); have m4 : w2.cell? ⟨w.heap.size, 4, none⟩ = some (.slice ao l.length c) := (by rw [kp_cell hk2H.out (by simp), World.cell?_alloc_new]; rfl); have m5 : w2.cell? ⟨w.heap.size, 5, none⟩ = some (.slice ako ks.length ck) := (by rw [kp_cell hk2H.out (by simp), World.cell?_alloc_new]; rfl))
    · go_ret
      exact ⟨rfl, hA.out.trans hk2H.out⟩
    · go_ret
      exact ⟨rfl, hA.out.trans hk2H.out⟩
  · have hk6' : Hid (6 ≤ k) := Lib.hid (by omega)
    go_enter Tryz.func3, Tryz.ntmps3
    go_wp2_with (first
      | (go_at_call 7; refine (hfitH.out _ hA.out).mono ?_; rintro e w2 ⟨⟨bf, rfl⟩, hk2⟩; have hk2H := Lib.hid hk2; clear hk2; have m0 : w2.cell? ⟨w.heap.size, 0, none⟩ = some (.int .i64 k) := (by rw [kp_cell hk2H.out (by simp), World.cell?_alloc_new]; rfl); have m1 : w2.cell? ⟨w.heap.size, 1, none⟩ = some (.int .i64 i) := (by rw [kp_cell hk2H.out (by simp), World.cell?_alloc_new]; rfl); have m2 : w2.cell? ⟨w.heap.size, 2, none⟩ = some (.float .f64 r) := (by rw [kp_cell hk2H.out (by simp), World.cell?_alloc_new]; rfl); have m3 : w2.cell? ⟨w.heap.size, 3, none⟩ = some (.string t) := (by rw [kp_cell hk2H.out (by simp), World.cell?_alloc_new]; rfl); have m4 : w2.cell? ⟨w.heap.size, 4, none⟩ = some (.slice ao l.length c) := (by rw [kp_cell hk2H.out (by simp), World.cell?_alloc_new]; rfl); have m5 : w2.cell? ⟨w.heap.size, 5, none⟩ = some (.slice ako ks.length ck) := (by rw [kp_cell hk2H.out (by simp), World.cell?_alloc_new]; rfl))
      | (go_at_call 8; refine (hiswH.out _ (hA.out.trans hk2H.out)).mono ?_; rintro e w3 ⟨bz, rfl, hbz, hk3⟩; have hbzH := Lib.hid hbz; have hk3H := Lib.hid (hk2H.out.trans hk3); clear hbz hk3; have m0 : w3.cell? ⟨w.heap.size, 0, none⟩ = some (.int .i64 k) := (by rw [kp_cell hk3H.out (by simp), World.cell?_alloc_new]; rfl); have m1 : w3.cell? ⟨w.heap.size, 1, none⟩ = some (.int .i64 i) := (by rw [kp_cell hk3H.out (by simp), World.cell?_alloc_new]; rfl); have m2 : w3.cell? ⟨w.heap.size, 2, none⟩ = some (.float .f64 r) := (by rw [kp_cell hk3H.out (by simp), World.cell?_alloc_new]; rfl); have m3 : w3.cell? ⟨w.heap.size, 3, none⟩ = some (.string t) := (by rw [kp_cell hk3H.out (by simp), World.cell?_alloc_new]; rfl); have m4 : w3.cell? ⟨w.heap.size, 4, none⟩ = some (.slice ao l.length c) := (by rw [kp_cell hk3H.out (by simp), World.cell?_alloc_new]; rfl); have m5 : w3.cell? ⟨w.heap.size, 5, none⟩ = some (.slice ako ks.length ck) := (by rw [kp_cell hk3H.out (by simp), World.cell?_alloc_new]; rfl))
      | (go_at_call 9; refine (hbarH.out _ (hA.out.trans hk3H.out)).mono ?_; rintro e w3b ⟨bb, rfl, hbb, hk3b⟩; have hbbH := Lib.hid hbb; have hk3bH := Lib.hid (hk3H.out.trans hk3b); clear hbb hk3b; have m0 : w3b.cell? ⟨w.heap.size, 0, none⟩ = some (.int .i64 k) := (by rw [kp_cell hk3bH.out (by simp), World.cell?_alloc_new]; rfl); have m1 : w3b.cell? ⟨w.heap.size, 1, none⟩ = some (.int .i64 i) := (by rw [kp_cell hk3bH.out (by simp), World.cell?_alloc_new]; rfl); have m2 : w3b.cell? ⟨w.heap.size, 2, none⟩ = some (.float .f64 r) := (by rw [kp_cell hk3bH.out (by simp), World.cell?_alloc_new]; rfl); have m3 : w3b.cell? ⟨w.heap.size, 3, none⟩ = some (.string t) := (by rw [kp_cell hk3bH.out (by simp), World.cell?_alloc_new]; rfl); have m4 : w3b.cell? ⟨w.heap.size, 4, none⟩ = some (.slice ao l.length c) := (by rw [kp_cell hk3bH.out (by simp), World.cell?_alloc_new]; rfl); have m5 : w3b.cell? ⟨w.heap.size, 5, none⟩ = some (.slice ako ks.length ck) := (by rw [kp_cell hk3bH.out (by simp), World.cell?_alloc_new]; rfl))
      | (go_at_call 10; refine (hwr2H.out _ (hA.out.trans hk3bH.out) ⟨hbzH.out (by first | assumption | simpa using (by assumption : (!bz) = false)), hbbH.out (by assumption)⟩ hk6'.out).mono ?_; rintro e w4 ⟨rfl, hk4⟩; have hk4H := Lib.hid (hk3bH.out.trans hk4); clear hk4; have m0 : w4.cell? ⟨w.heap.size, 0, none⟩ = some (.int .i64 k) := (by rw [kp_cell hk4H.out (by simp), World.cell?_alloc_new]; rfl); have m1 : w4.cell? ⟨w.heap.size, 1, none⟩ = some (.int .i64 i) := (by rw [kp_cell hk4H.out (by simp), World.cell?_alloc_new]; rfl); have m2 : w4.cell? ⟨w.heap.size, 2, none⟩ = some (.float .f64 r) := (by rw [kp_cell hk4H.out (by simp), World.cell?_alloc_new]; rfl); have m3 : w4.cell? ⟨w.heap.size, 3, none⟩ = some (.string t) := (by rw [kp_cell hk4H.out (by simp), World.cell?_alloc_new]; rfl); have m4 : w4.cell? ⟨w.heap.size, 4, none⟩ = some (.slice ao l.length c) := (by rw [kp_cell hk4H.out (by simp), World.cell?_alloc_new]; rfl); have m5 : w4.cell? ⟨w.heap.size, 5, none⟩ = some (.slice ako ks.length ck) := (by rw [kp_cell hk4H.out (by simp), World.cell?_alloc_new]; rfl))
      | (go_at_call 12; refine (hrdH2.out _ (hA.out.trans hk4H.out) ⟨hbzH.out (by first | assumption | simpa using (by assumption : (!bz) = false)), hbbH.out (by assumption)⟩).mono ?_; rintro e w5 ⟨ls2, kv2, rfl, hS5, hk5⟩; have hS5H := Lib.hid hS5; have hk5H := Lib.hid (hk4H.out.trans hk5); clear hk5 hS5)
      | (go_at_call 11; refine (hmeH.out _ _ _ hS5H.out ⟨hbzH.out (by first | assumption | simpa using (by assumption : (!bz) = false)), hbbH.out (by assumption)⟩).mono ?_; rintro e w6 ⟨rfl, hk6⟩; have hk6H := Lib.hid (hk5H.out.trans hk6); clear hk6))
    · go_ret
      exact ⟨rfl, hA.out.trans hk2H.out⟩
    · go_ret
      exact ⟨rfl, hA.out.trans hk3H.out⟩
    · go_ret
      exact ⟨rfl, hA.out.trans hk3bH.out⟩
    · go_ret
      exact ⟨rfl, hA.out.trans hk6H.out⟩
end Go.Proofs.YtokmkkkanphihaaGreatRDoor

/- The cards of the laws over one value: what comes in, out of how it reads; FnNulled's card. -/
namespace Go.Proofs.YtokmkkkanphihaaGreatRDoor
open Go.RowKit Go.Sort Go.ChangeShapes Go.WideShapes Go.ChangeAt

theorem bulk_appW {H : Type} : ∀ (ds gs : List (DataW H)), Rows.uptoBulkAll ds ≤ Rows.uptoBulkAll (ds ++ gs)
  | [], _ => by simp [Rows.uptoBulkAll]
  | d :: ds, gs => by
    have := bulk_appW ds gs
    simp only [List.cons_append, Rows.uptoBulkAll]
    omega
theorem bulk_ofW {H : Type} {ds gs : List (DataW H)} (h : Rows.uptoSmall H (ds ++ gs) = true) : Rows.uptoBulkAll ds ≤ 1048576 := by
  unfold Rows.uptoSmall at h
  exact Nat.le_trans (bulk_appW ds gs) (of_decide_eq_true h)

/-- What comes in, out of how it reads. -/
theorem read_one {H : Type} {enc : TypeId × Value → H} {W : World} {sp : Nat → Bool} {held : Bool} {v : Value} {d : DataW H} {ps : List MemPlace}
    (h : DataW.Trod enc Tryz.prog W 0 sp held 26 v d ps) (hb : Rows.uptoBulk d ≤ 1048576) :
    ∃ v' ls kv, v = .agg (aggV v' ls kv) ∧ Subs W.heap.size W v' ls kv ∧ WfV v' ∧ cost v' + 3000 ≤ lim := by
  obtain ⟨fuel, h1⟩ := h
  obtain ⟨v', ls, kv, hc, hS, hR⟩ := read_val fuel _ _ h1
  have hlen : v.cells.toList.length = 6 := by
    rw [hc]
    obtain ⟨k, i, r, t, l, ks⟩ := v'
    rfl
  have hcells : v.cells = aggV v' ls kv := by
    apply Array.ext'
    exact hc
  have hv : v = .agg (aggV v' ls kv) := by
    cases v with
    | agg cs => exact congrArg Value.agg hcells
    | _ => simp [Value.cells] at hlen
  refine ⟨v', ls, kv, hv, hS, hR.1 hb, ?_⟩
  have h2 : cost v' + 10 ≤ 2100 * Rows.uptoBulk d := hR.2
  unfold lim
  omega

theorem parW : Tryz.f3.params = #[26] := by kernel_rfl
theorem recV : Tryz.prog.readableRec 26 = true := by kernel_rfl
theorem rowV : 26 < Tryz.prog.types.size := of_decide_eq_true (by kernel_rfl)

set_option maxRecDepth 100000 in
theorem contractW (H : Type) (enc : TypeId × Value → H) (W : World) (args : Array Value) (ds gs : List (DataW H)) (before : List MemPlace)
    (hW : DataW.Whole enc Tryz.prog Tryz.f3.params.toList Rows.fnNulledSpec.vars false W args.toList ds gs before) (hL : laidMetH Tryz.prog Rows.fnNulledRow.laid W)
    (hcond : Rows.uptoBulkAll ds ≤ 1048576) :
    Calls Tryz.prog 3 args W fun e W' => ∃ v, e = .returned v ∧ Rows.fnNulledSpec.post enc Tryz.prog Tryz.f3 false true false false W args v W' := by
  have hW' := hW
  obtain ⟨p, q, hA0, hV, rfl, hfz, hnd⟩ := hW
  have hA : DataW.TrodAll enc Tryz.prog W 0 (fun _ => true) true Tryz.f3.params.toList args.toList ds p := hA0
  rw [parW] at hA
  obtain ⟨v0, vs0, d0, ds0, p0, q0, hargs, rfl, rfl, h0, r0⟩ := trodAll_cons hA
  obtain ⟨rfl, rfl, rfl⟩ := trodAll_nil r0
  obtain rfl : args = #[v0] := by cases args; simp_all
  obtain ⟨rfl, rfl⟩ := trodVars_none hV
  clear hA0
  simp only [List.append_nil] at hW'
  have hlt : ∀ x ∈ p0, x.block < W.heap.size := fun x hx => hW'.lt x hx
  have hb : Rows.uptoBulk d0 ≤ 1048576 := by
    simp only [Rows.uptoBulkAll] at hcond
    omega
  have h0' : DataW.Trod enc Tryz.prog W 0 (fun _ => true) true 26 v0 d0 p0 := h0
  obtain ⟨v', ls, kv, rfl, hS, hWf, hroom⟩ := read_one h0' hb
  refine (FnNulled_any (laid_tabs hL) hS hWf hroom).mono fun e W' ⟨he, hk⟩ => ?_
  subst he
  have hB := hk.below
  exact ⟨_, rfl, post_of_low (pa := p0) (pv := []) hW' (fun _ _ _ => trodAll_cons_mk (shut_bool Tryz.underlying4 _) trodAll_mk0)
    (fun sp hsp => by
      rw [parW]
      have h := trodAll_cons_mk (WideElems.Trod_stays laidOut recV rowV h0 (fun x hx => hB.same (hlt x hx)) (fun x hx => by simpa using hsp x hx)) trodAll_mk0
      rw [List.append_nil] at h
      exact h) (fun _ _ => rfl) (by simp)
    (hB.frame _) (fun a ha => hB.frozen ha) (Go.RowKit.ok_one (by kernel_rfl) rfl (okWide_bool_mk Tryz.underlying4 _))⟩

abbrev oneArg : Array Value := #[.agg #[.int .i64 0, .int .i64 0, .float .f64 0, .string ⟨#[]⟩, .slice none 0 0, .slice none 0 0]]
set_option maxRecDepth 100000 in
theorem readsW (os : Os) {H : Type} (enc : TypeId × Value → H) : ∃ places, DataW.whole enc Tryz.prog (atLaid os oneArg).memory Tryz.f3.params.toList Rows.fnNulledSpec.vars false oneArg.toList 8 = some ([.agg [.lit (.int .i64 0), .lit (.int .i64 0), .lit (.float .f64 0), .lit (.string []), .nil, .nil]], [], places) :=
  ⟨[], by kernel_rfl⟩
set_option maxRecDepth 1000000 in
theorem inputW (os : Os) : Input.okWideB Tryz.checked.prog (atLaid os oneArg) 3 ⟨#[], oneArg, []⟩ = true := by kernel_rfl

set_option maxRecDepth 100000 in
theorem liftedW (os : Os) (started : os.Started) (H : Type) (enc : TypeId × Value → H) (F : Stop.Interp) :
    ReturnsInHanded {} Tryz.checked os 3 .any ((Rows.OpenSpec.upto Rows.fnNulledSpec).preRow enc Tryz.prog Tryz.f3 Rows.fnNulledUptoRow.domain false Rows.fnNulledUptoRow.laid) (((Rows.OpenSpec.upto Rows.fnNulledSpec).at F).post enc Tryz.prog Tryz.f3 false true false false) := by
  obtain ⟨places, hx⟩ := readsW os enc
  refine returnsInHanded_of_row (C := Tryz.checked) (s := Rows.OpenSpec.upto Rows.fnNulledSpec) ownK started (by kernel_rfl) Tryz.func3
    (witness_row_atRef (enc := enc) (C := Tryz.checked) false (laidWorld os) oneArg rfl (laid_vars os oneArg) (laid_heap os oneArg) (inputW os)
      (OpenSpec.preRow_of_cond 8 hx (by kernel_rfl) (fun k hk => by cases hk; kernel_rfl) (by kernel_rfl) (laid_met os oneArg))) ?_
  intro W base args ds gs before hval hW _ hcond _ hL _ _
  exact contractW H enc W args ds gs before hW hL (bulk_ofW (hcond _ rfl))

theorem saidW : Rows.FnNulledUptoSaid :=
  OpenClaim.holds_of_cond 3 Tryz.f3 rfl rfl rfl rfl rfl rfl rfl ⟨rfl, rfl, rfl, rfl, rfl⟩ rfl rfl rfl rfl rfl (by kernel_rfl) Tryz.func3 (by kernel_rfl)
    (of_decide_eq_true (by kernel_rfl)) (by unfold Func.isWrapper; first | (rw [if_pos (by decide +kernel)]; kernel_rfl) | (rw [if_neg (by decide +kernel)]; exact ⟨rfl, rfl⟩))
    (fun os started H enc _ F => by rw [OpenClaim.pre_eq_preRow]; exact liftedW os started H enc F)

theorem namedW : Tryz.prog.funcNamed "loop.example/pub-g01521/laws.FnNulled" = some 3 := by kernel_rfl
theorem standV : Tryz.prog.wantsStandIn 26 = false := by kernel_rfl
theorem looksW : true = Tryz.pinned.checked.prog.looks [] := by kernel_rfl
theorem plainW (f : FuncId) (fn : Func) (hf : Tryz.pinned.checked.prog.funcNamed "loop.example/pub-g01521/laws.FnNulled" = some f) (hfn : Tryz.pinned.checked.prog.funcs[f]? = some fn) :
    true = Tryz.pinned.checked.prog.looks [] ∧ ∀ (j : Nat) t, fn.params[j]? = some t → Tryz.pinned.checked.prog.wantsStandIn t = false := by
  obtain rfl : f = 3 := Option.some.inj (namedW.symm.trans hf) |>.symm
  obtain rfl : fn = Tryz.f3 := (Option.some.inj (Tryz.func3.symm.trans hfn)).symm
  refine ⟨looksW, fun j t ht => ?_⟩
  rw [parW] at ht
  obtain rfl : t = 26 := by simpa using Array.mem_of_getElem? ht
  exact standV

/-- The card of the law, at inputs of bounded bulk. -/
theorem cardN : Rows.FnNulledUptoCardSaid :=
  Claim7.holds_tied_plain_at .later [] _ _ _ _ saidW (fun _ h => by cases h) (by kernel_rfl) (fun _ h => by cases h) fnNulledUpto_row_tie rfl ⟨rfl, rfl⟩ (by kernel_rfl) rfl plainW (by kernel_rfl)
end Go.Proofs.YtokmkkkanphihaaGreatRDoor
