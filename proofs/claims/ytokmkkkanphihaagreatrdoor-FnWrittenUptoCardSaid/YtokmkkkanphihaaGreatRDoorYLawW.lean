/- laws.zzFits3, laws.means, laws.FnWritten. -/
import Derived.Test.YtokmkkkanphihaaGreatRDoorYMean
import Derived.Test.YtokmkkkanphihaaGreatRDoorRow
import Derived.Test.YtokmkkkanphihaaGreatRDoorCard
namespace Go.Proofs.YtokmkkkanphihaaGreatRDoor
open Go.RowKit Go.Sort

/-- A truth value is handed back. -/
def SomeB (e : Ending) : Prop := ∃ b, e = .returned (.bool b)

set_option maxHeartbeats 1600000 in
set_option maxRecDepth 100000 in
theorem Fits1_any {w : World} {ako : Option Addr} {ks : List ByteArray} {ck : Nat} (hk : ks = [] ∨ ∃ b2 o2, ako = some ⟨b2, o2, none⟩ ∧ ∀ j (h : j < ks.length), w.cell? ⟨b2, o2 + j, none⟩ = some (.string ks[j])) (hlen : ks.length ≤ lim) :
    Calls Tryz.prog 14 #[.slice ako ks.length ck] w fun e w' => SomeB e ∧ w' = w := by
  have hlen' : ks.length ≤ 1099511627776 := hlen
  have hkH := Lib.hid hk
  clear hk hlen
  by_cases hbig : (2147483647 : Int) < (ks.length : Int)
  · go_enter Tryz.func14, Tryz.ntmps14
    go_wp2_with fail
    go_ret
    exact ⟨⟨_, rfl⟩, rfl⟩
  · go_enter Tryz.func14, Tryz.ntmps14
    go_wp2_with fail
    go_loopg [10] (ks.length) (fun k i wr => ∃ j : Nat, j ≤ ks.length ∧ k = ks.length - j ∧ i = .int .i64 j ∧ wr = w)
    case atStart => exact ⟨0, Nat.zero_le _, rfl, rfl, rfl⟩
    case round =>
      obtain ⟨j, hj, hk, rfl, rfl⟩ := hrel
      by_cases hlt : j < ks.length
      · obtain ⟨b2, o2, rfl, hc⟩ : ∃ b2 o2, ako = some ⟨b2, o2, none⟩ ∧ ∀ j (h : j < ks.length), wr.cell? ⟨b2, o2 + j, none⟩ = some (.string ks[j]) := by
          rcases hkH.out with h | h
          · subst h; simp at hlt
          · exact h
        have hcj := hc j hlt
        obtain ⟨key, hkey⟩ : ∃ key, ks[j] = key := ⟨_, rfl⟩
        rw [hkey] at hcj
        clear hc hkey
        by_cases hb : (2147483647 : Int) < (key.size : Int)
        · go_wp2_with fail
          go_ret
          exact ⟨⟨_, rfl⟩, rfl⟩
        · go_wp2_with fail
          go_roundg (ks.length - (j + 1))
          case measure => omega
          case rel => exact ⟨j + 1, by omega, rfl, by go_num, rfl⟩
      · have hje : j = ks.length := by omega
        subst hje
        go_wp2_with fail
        go_ret
        exact ⟨⟨_, rfl⟩, rfl⟩

set_option maxHeartbeats 1600000 in
set_option maxRecDepth 100000 in
theorem Fits3_any {w : World} {N : Nat} {v : Val} {ls kv : Value} (hS : Subs N w v ls kv) (hN : N ≤ w.heap.size) (hW : WfV v) :
    Calls Tryz.prog 7 #[.agg (aggV v ls kv)] w fun e w' => SomeB e ∧ Kp (fun _ => False) w w' := by
  obtain ⟨k, i, r, t, l, ks⟩ := v
  simp only [WfV] at hW
  obtain ⟨_, _, _, w4, w5, w6, _, _⟩ := hW
  obtain ⟨⟨ao, c, rfl, _⟩, ⟨ako, ck, rfl, hk⟩⟩ := hS
  have hl1 : t.size ≤ 1099511627776 := w4
  have hl2 : l.length ≤ 1099511627776 := w5
  have hf : ∀ o, Calls Tryz.prog 14 #[.slice ako ks.length ck] (w.alloc o) fun e w' => SomeB e ∧ w' = w.alloc o := fun o => Fits1_any (by
    rcases hk with h | ⟨b2, o2, h1, h2, h3⟩
    · exact .inl h
    · exact .inr ⟨b2, o2, h1, fun j hj => (World.cell?_of_block (heap_alloc_old w o b2 (by omega))).trans (h3 j hj)⟩) w6
  have hfH := Lib.hid hf
  clear hk hf w4 w5 w6
  simp only [aggV]
  by_cases h1 : (2147483647 : Int) < (t.size : Int)
  · go_enter Tryz.func7, Tryz.ntmps7
    go_wp2_with fail
    go_ret
    exact ⟨⟨_, rfl⟩, (Kp.refl _ w).alloc _⟩
  · by_cases h2 : (2147483647 : Int) < (l.length : Int)
    · go_enter Tryz.func7, Tryz.ntmps7
      go_wp2_with fail
      go_ret
      exact ⟨⟨_, rfl⟩, (Kp.refl _ w).alloc _⟩
    · go_enter Tryz.func7, Tryz.ntmps7
      go_wp2_with (go_at_call 14; refine (hfH.out _).mono ?_; rintro e w2 ⟨⟨b, rfl⟩, rfl⟩)
      · go_ret
        exact ⟨⟨_, rfl⟩, (Kp.refl _ w).alloc _⟩
      · go_ret
        exact ⟨⟨_, rfl⟩, (Kp.refl _ w).alloc _⟩

set_option maxHeartbeats 1600000 in
set_option maxRecDepth 100000 in
/-- The text of a value means it. -/
theorem means_any {w : World} {v : Val} {lv kv : Value} {T : ByteArray} (hT : T = ⟨(valT v).toArray⟩) (hG : Good v) (hD : DeepV 12 v) (hU : Utf8V v) (hlen : (valT v).length ≤ lim) (hvs : vsz v ≤ lim) (hS : Subs w.heap.size w v lv kv) :
    Calls Tryz.prog 11 #[.string T, .agg (aggV v lv kv)] w (Yes w) := by
  have hTs : T.size ≤ lim := by rw [hT]; exact hlen
  have hP : ∀ W, Calls Tryz.prog 20 #[.string T] W (ParseOut W v) := fun W => by rw [hT]; exact Parse_any hG hD hlen
  have hu : ∀ W, Calls Tryz.prog 21 #[.string T] W fun e w' => e = .returned (.bool true) ∧ ∃ n, w' = W.drewN n := fun W => IsUTF8_yes hTs (by rw [hT]; exact ok_valT v hG hU)
  have hM : ∀ W S ls kz x y, (∀ k, k < w.heap.size → W.heap[k]? = w.heap[k]?) → w.heap.size ≤ W.heap.size → NSubs S W v ls kz → (∀ k, S k → k < W.heap.size) → Calls Tryz.prog 22 #[.agg (aggN v ls kz x y), .agg (aggV v lv kv)] W (Yes W) := fun W S ls kz x y h1 h2 h3 h4 =>
    Means_any _ v (Nat.le_refl _) hG hvs W w.heap.size S ls kz x y lv kv h3 (hS.step (Nat.le_refl _) h1) h2 h4
  obtain ⟨⟨ao, c, hlv, _⟩, ⟨ako, ck, hkv, _⟩⟩ : (∃ ao c, lv = .slice ao (match v with | .mk _ _ _ _ l _ => l.length) c ∧ True) ∧ (∃ ao c, kv = .slice ao (match v with | .mk _ _ _ _ _ ks => ks.length) c ∧ True) := by
    obtain ⟨k, i, r, t, l, ks⟩ := v
    obtain ⟨⟨ao, c, rfl, _⟩, ⟨ako, ck, rfl, _⟩⟩ := hS
    exact ⟨⟨ao, c, rfl, trivial⟩, ⟨ako, ck, rfl, trivial⟩⟩
  obtain ⟨k, i, r, t, l, ks⟩ := v
  simp only at hlv hkv
  subst hlv hkv
  -- the node's cells
  have hP2 : ∀ W, Calls Tryz.prog 20 #[.string T] W fun e w' => ∃ a1 n1 c1 a2 n2 c2 x y S, e = .returned (.tuple #[.agg #[.int .i64 (nodeK k), .string (nodeT k i r t), .slice a1 n1 c1, .slice a2 n2 c2, .int .i64 x, .int .i64 y], .bool true]) ∧ NSubs S w' (.mk k i r t l ks) (.slice a1 n1 c1) (.slice a2 n2 c2) ∧ (∀ k, S k → k < w'.heap.size) ∧ Kp (fun _ => False) W w' := fun W => (hP W).mono fun e w' hh => by
    obtain ⟨ls, kz, x, y, S, he, hN, hSS, hk⟩ := hh
    obtain ⟨⟨a1, c1, rfl, h1⟩, ⟨a2, c2, rfl, h2⟩⟩ := hN
    exact ⟨a1, _, c1, a2, _, c2, x, y, S, he, ⟨⟨a1, c1, rfl, h1⟩, ⟨a2, c2, rfl, h2⟩⟩, hSS, hk⟩
  have hP2H := Lib.hid hP2
  have huH := Lib.hid hu
  have hMH := Lib.hid hM
  simp only [aggV]
  simp only [aggN, aggV] at hMH
  generalize nodeK k = nk at *
  generalize nodeT k i r t = nt at *
  clear hP hP2 hu hM hT hG hD hU hlen hvs hS hTs
  go_enter Tryz.func11, Tryz.ntmps11
  go_wp2_with (first
    | (go_at_call 20; refine (hP2H.out _).mono ?_; rintro e w2 ⟨a1, n1, c1, a2, n2, c2, x, y, S, rfl, hN, hSS, hk2⟩; have hNH := Lib.hid hN; have hSSH := Lib.hid hSS; have hk2H := Lib.hid hk2; have b0 : ∀ q, w2.cell? ⟨w.heap.size, q, none⟩ = _ := (fun q => (kp_cell hk2 (by simp) q).trans (World.cell?_alloc_new w _ _ q)); have b00 := fun o => cells_alloc (hk2.at (b := w.heap.size) (by simp) (fun h => h) (heap_alloc_new w _)) o 0; have b01 := fun o => cells_alloc (hk2.at (b := w.heap.size) (by simp) (fun h => h) (heap_alloc_new w _)) o 1; have b02 := fun o => cells_alloc (hk2.at (b := w.heap.size) (by simp) (fun h => h) (heap_alloc_new w _)) o 2; have b03 := fun o => cells_alloc (hk2.at (b := w.heap.size) (by simp) (fun h => h) (heap_alloc_new w _)) o 3; have b04 := fun o => cells_alloc (hk2.at (b := w.heap.size) (by simp) (fun h => h) (heap_alloc_new w _)) o 4; have b05 := fun o => cells_alloc (hk2.at (b := w.heap.size) (by simp) (fun h => h) (heap_alloc_new w _)) o 5; simp only [List.getElem?_toArray, List.getElem?_cons_zero, List.getElem?_cons_succ] at b00 b01 b02 b03 b04 b05; clear hN hSS hk2 b0)
    | (go_at_call 21; refine (huH.out _).mono ?_; rintro e w3 ⟨rfl, n3, rfl⟩)
    | (go_at_call 22; refine (hMH.out _ S _ _ x y (fun q hq => ?_) ?_ ?_ ?_).mono ?_; exact (by exact (heap_alloc_old w2 _ q (by have := hk2H.out.size; simp at this; omega)).trans ((hk2H.out.block q (by simp; omega) (fun h => h)).trans (heap_alloc_old w _ q hq))); exact (by have := hk2H.out.size; simp at this ⊢; omega); exact hNH.out.step (fun q hq => by exact heap_alloc_old w2 _ q (hSSH.out q hq)) (fun _ h => h); exact (fun q hq => by have := hSSH.out q hq; simp; omega); rintro e w4 ⟨rfl, hk4⟩; have hk4H := Lib.hid hk4; clear hk4))
  go_ret
  exact ⟨rfl, ((((Kp.refl _ w).alloc _).trans hk2H.out).alloc _ |>.drewN n3).trans hk4H.out⟩

theorem vsz_le_cost (v : Val) : vsz v ≤ cost v := vsz_cost v

set_option maxHeartbeats 3200000 in
set_option maxRecDepth 100000 in
theorem FnWritten_any {w : World} {v : Val} {ls kv : Value} (hT : Tabs w.heap.size w) (hS : Subs w.heap.size w v ls kv) (hW : WfV v) (hroom : cost v + 3000 ≤ lim) :
    Calls Tryz.prog 5 #[.agg (aggV v ls kv)] w (Yes w) := by
  have hvz : vsz v ≤ lim := by have := vsz_cost v; omega
  have hfit : ∀ W, Kp (fun _ => False) w W → Calls Tryz.prog 7 #[.agg (aggV v ls kv)] W fun e w' => SomeB e ∧ Kp (fun _ => False) W w' := fun W hk => Fits3_any (N := w.heap.size) (hS.step (Nat.le_refl _) (kp_low hk (Nat.le_refl _))) hk.size hW
  have hisw : ∀ W, Kp (fun _ => False) w W → Calls Tryz.prog 8 #[.agg (aggV v ls kv)] W (Says (WrittenV v) W) := fun W hk => isWritten_any (N := w.heap.size) (hS.step (Nat.le_refl _) (kp_low hk (Nat.le_refl _))) hk.size hW hvz
  have hwr : ∀ W, Kp (fun _ => False) w W → WrittenV v → Calls Tryz.prog 10 #[.agg (aggV v ls kv), .int .i64 0] W (WrOut W (valT v)) := fun W hk hw => by
    have hG := Good_of 12 v hw.2.1 hw.2.2 hW
    have h1 := Written_zero ((hT.step (kp_low hk (Nat.le_refl _)) hk.size).grow hk.size (Nat.le_refl _)) (hS.step hk.size (kp_low hk (Nat.le_refl _))) hG (Kind2_of hw.1) (by omega)
    rw [red0 v hG] at h1
    exact h1
  have hme : ∀ W, Kp (fun _ => False) w W → WrittenV v → Calls Tryz.prog 11 #[.string ⟨(valT v).toArray⟩, .agg (aggV v ls kv)] W (Yes W) := fun W hk hw => by
    have hG := Good_of 12 v hw.2.1 hw.2.2 hW
    have h2 := valT_len 0 v hG
    rw [red0 v hG] at h2
    exact means_any rfl hG (Deep_of 12 v hw.2.1) (Utf8_of 12 v hw.2.1) (by omega) hvz (hS.step hk.size (kp_low hk (Nat.le_refl _)))
  have hfitH := Lib.hid hfit
  have hiswH := Lib.hid hisw
  have hwrH := Lib.hid hwr
  have hmeH := Lib.hid hme
  obtain ⟨k, i, r, t, l, ks⟩ := v
  obtain ⟨⟨ao, c, rfl, _⟩, ⟨ako, ck, rfl, _⟩⟩ := hS
  clear hfit hisw hwr hme hT hW hroom hvz
  simp only [aggV] at hfitH hiswH hwrH hmeH ⊢
  generalize hTx : (⟨(valT (.mk k i r t l ks)).toArray⟩ : ByteArray) = Tx at hmeH
  have hwr2 : ∀ W, Kp (fun _ => False) w W → WrittenV (.mk k i r t l ks) → Calls Tryz.prog 10 #[.agg #[.int .i64 k, .int .i64 i, .float .f64 r, .string t, .slice ao l.length c, .slice ako ks.length ck], .int .i64 0] W fun e w' => e = .returned (.tuple #[.string Tx, .bool true]) ∧ Kp (fun _ => False) W w' := fun W h1 h2 => by rw [← hTx]; exact hwrH.out W h1 h2
  have hwr2H := Lib.hid hwr2
  have hA : Hid (Kp (fun _ => False) w (w.alloc (.cells #[.int .i64 k, .int .i64 i, .float .f64 r, .string t, .slice ao l.length c, .slice ako ks.length ck] 26))) := Lib.hid ((Kp.refl _ w).alloc _)
  clear hTx hwrH hwr2
  go_enter Tryz.func5, Tryz.ntmps5
  go_wp2_with (first
    | (go_at_call 7; refine (hfitH.out _ hA.out).mono ?_; rintro e w2 ⟨⟨bf, rfl⟩, hk2⟩; have hk2H := Lib.hid hk2; clear hk2; have m0 : w2.cell? ⟨w.heap.size, 0, none⟩ = some (.int .i64 k) := (by rw [kp_cell hk2H.out (by simp), World.cell?_alloc_new]; rfl); have m1 : w2.cell? ⟨w.heap.size, 1, none⟩ = some (.int .i64 i) := (by rw [kp_cell hk2H.out (by simp), World.cell?_alloc_new]; rfl); have m2 : w2.cell? ⟨w.heap.size, 2, none⟩ = some (.float .f64 r) := (by rw [kp_cell hk2H.out (by simp), World.cell?_alloc_new]; rfl); have m3 : w2.cell? ⟨w.heap.size, 3, none⟩ = some (.string t) := (by rw [kp_cell hk2H.out (by simp), World.cell?_alloc_new]; rfl); have m4 : w2.cell? ⟨w.heap.size, 4, none⟩ = some (.slice ao l.length c) := (by rw [kp_cell hk2H.out (by simp), World.cell?_alloc_new]; rfl); have m5 : w2.cell? ⟨w.heap.size, 5, none⟩ = some (.slice ako ks.length ck) := (by rw [kp_cell hk2H.out (by simp), World.cell?_alloc_new]; rfl))
    | (go_at_call 8; refine (hiswH.out _ (hA.out.trans hk2H.out)).mono ?_; rintro e w3 ⟨bz, rfl, hbz, hk3⟩; have hbzH := Lib.hid hbz; have hk3H := Lib.hid (hk2H.out.trans hk3); clear hbz hk3; have m0 : w3.cell? ⟨w.heap.size, 0, none⟩ = some (.int .i64 k) := (by rw [kp_cell hk3H.out (by simp), World.cell?_alloc_new]; rfl); have m1 : w3.cell? ⟨w.heap.size, 1, none⟩ = some (.int .i64 i) := (by rw [kp_cell hk3H.out (by simp), World.cell?_alloc_new]; rfl); have m2 : w3.cell? ⟨w.heap.size, 2, none⟩ = some (.float .f64 r) := (by rw [kp_cell hk3H.out (by simp), World.cell?_alloc_new]; rfl); have m3 : w3.cell? ⟨w.heap.size, 3, none⟩ = some (.string t) := (by rw [kp_cell hk3H.out (by simp), World.cell?_alloc_new]; rfl); have m4 : w3.cell? ⟨w.heap.size, 4, none⟩ = some (.slice ao l.length c) := (by rw [kp_cell hk3H.out (by simp), World.cell?_alloc_new]; rfl); have m5 : w3.cell? ⟨w.heap.size, 5, none⟩ = some (.slice ako ks.length ck) := (by rw [kp_cell hk3H.out (by simp), World.cell?_alloc_new]; rfl))
    | (go_at_call 10; refine (hwr2H.out _ (hA.out.trans hk3H.out) (hbzH.out (by simpa using (by assumption : (!bz) = false)))).mono ?_; rintro e w4 ⟨rfl, hk4⟩; have hk4H := Lib.hid (hk3H.out.trans hk4); clear hk4; have m0 : w4.cell? ⟨w.heap.size, 0, none⟩ = some (.int .i64 k) := (by rw [kp_cell hk4H.out (by simp), World.cell?_alloc_new]; rfl); have m1 : w4.cell? ⟨w.heap.size, 1, none⟩ = some (.int .i64 i) := (by rw [kp_cell hk4H.out (by simp), World.cell?_alloc_new]; rfl); have m2 : w4.cell? ⟨w.heap.size, 2, none⟩ = some (.float .f64 r) := (by rw [kp_cell hk4H.out (by simp), World.cell?_alloc_new]; rfl); have m3 : w4.cell? ⟨w.heap.size, 3, none⟩ = some (.string t) := (by rw [kp_cell hk4H.out (by simp), World.cell?_alloc_new]; rfl); have m4 : w4.cell? ⟨w.heap.size, 4, none⟩ = some (.slice ao l.length c) := (by rw [kp_cell hk4H.out (by simp), World.cell?_alloc_new]; rfl); have m5 : w4.cell? ⟨w.heap.size, 5, none⟩ = some (.slice ako ks.length ck) := (by rw [kp_cell hk4H.out (by simp), World.cell?_alloc_new]; rfl))
    | (go_at_call 11; refine (hmeH.out _ (hA.out.trans hk4H.out) (hbzH.out (by simpa using (by assumption : (!bz) = false)))).mono ?_; rintro e w5 ⟨rfl, hk5⟩; have hk5H := Lib.hid (hk4H.out.trans hk5); clear hk5))
  · go_ret
    exact ⟨rfl, hA.out.trans hk2H.out⟩
  · go_ret
    exact ⟨rfl, hA.out.trans hk3H.out⟩
  · go_ret
    exact ⟨rfl, hA.out.trans hk5H.out⟩
end Go.Proofs.YtokmkkkanphihaaGreatRDoor

/- The cards of the laws over one value: what comes in, out of how it reads; FnWritten's card. -/
namespace Go.Proofs.YtokmkkkanphihaaGreatRDoor
open Go.RowKit Go.Sort Go.ChangeShapes Go.WideShapes Go.ChangeAt

theorem bulk_appW {H : Type} : ∀ (ds gs : List (DataW H)), Rows.uptoBulkAll ds ≤ Rows.uptoBulkAll (ds ++ gs)
  | [], _ => by simp [Rows.uptoBulkAll]
  | d :: ds, gs => by
    have := bulk_appW ds gs
    simp only [List.cons_append, Rows.uptoBulkAll]
    omega
theorem bulk_ofW {H : Type} {ds gs : List (DataW H)} (h : Rows.uptoSmall H (ds ++ gs) = true) : Rows.uptoBulkAll ds ≤ 1048576 := by
  unfold Rows.uptoSmall at h
  exact Nat.le_trans (bulk_appW ds gs) (of_decide_eq_true h)

/-- What comes in, out of how it reads. -/
theorem read_one {H : Type} {enc : TypeId × Value → H} {W : World} {sp : Nat → Bool} {held : Bool} {v : Value} {d : DataW H} {ps : List MemPlace}
    (h : DataW.Trod enc Tryz.prog W 0 sp held 26 v d ps) (hb : Rows.uptoBulk d ≤ 1048576) :
    ∃ v' ls kv, v = .agg (aggV v' ls kv) ∧ Subs W.heap.size W v' ls kv ∧ WfV v' ∧ cost v' + 3000 ≤ lim := by
  obtain ⟨fuel, h1⟩ := h
  obtain ⟨v', ls, kv, hc, hS, hR⟩ := read_val fuel _ _ h1
  have hlen : v.cells.toList.length = 6 := by
    rw [hc]
    obtain ⟨k, i, r, t, l, ks⟩ := v'
    rfl
  have hcells : v.cells = aggV v' ls kv := by
    apply Array.ext'
    exact hc
  have hv : v = .agg (aggV v' ls kv) := by
    cases v with
    | agg cs => exact congrArg Value.agg hcells
    | _ => simp [Value.cells] at hlen
  refine ⟨v', ls, kv, hv, hS, hR.1 hb, ?_⟩
  have h2 : cost v' + 10 ≤ 2100 * Rows.uptoBulk d := hR.2
  unfold lim
  omega

theorem parW : Tryz.f5.params = #[26] := by kernel_rfl
theorem recV : Tryz.prog.readableRec 26 = true := by kernel_rfl
theorem rowV : 26 < Tryz.prog.types.size := of_decide_eq_true (by kernel_rfl)

set_option maxRecDepth 100000 in
theorem contractW (H : Type) (enc : TypeId × Value → H) (W : World) (args : Array Value) (ds gs : List (DataW H)) (before : List MemPlace)
    (hW : DataW.Whole enc Tryz.prog Tryz.f5.params.toList Rows.fnWrittenSpec.vars false W args.toList ds gs before) (hL : laidMetH Tryz.prog Rows.fnWrittenRow.laid W)
    (hcond : Rows.uptoBulkAll ds ≤ 1048576) :
    Calls Tryz.prog 5 args W fun e W' => ∃ v, e = .returned v ∧ Rows.fnWrittenSpec.post enc Tryz.prog Tryz.f5 false true false false W args v W' := by
  have hW' := hW
  obtain ⟨p, q, hA0, hV, rfl, hfz, hnd⟩ := hW
  have hA : DataW.TrodAll enc Tryz.prog W 0 (fun _ => true) true Tryz.f5.params.toList args.toList ds p := hA0
  rw [parW] at hA
  obtain ⟨v0, vs0, d0, ds0, p0, q0, hargs, rfl, rfl, h0, r0⟩ := trodAll_cons hA
  obtain ⟨rfl, rfl, rfl⟩ := trodAll_nil r0
  obtain rfl : args = #[v0] := by cases args; simp_all
  obtain ⟨rfl, rfl⟩ := trodVars_none hV
  clear hA0
  simp only [List.append_nil] at hW'
  have hlt : ∀ x ∈ p0, x.block < W.heap.size := fun x hx => hW'.lt x hx
  have hb : Rows.uptoBulk d0 ≤ 1048576 := by
    simp only [Rows.uptoBulkAll] at hcond
    omega
  have h0' : DataW.Trod enc Tryz.prog W 0 (fun _ => true) true 26 v0 d0 p0 := h0
  obtain ⟨v', ls, kv, rfl, hS, hWf, hroom⟩ := read_one h0' hb
  refine (FnWritten_any (laid_tabs hL) hS hWf hroom).mono fun e W' ⟨he, hk⟩ => ?_
  subst he
  have hB := hk.below
  exact ⟨_, rfl, post_of_low (pa := p0) (pv := []) hW' (fun _ _ _ => trodAll_cons_mk (shut_bool Tryz.underlying4 _) trodAll_mk0)
    (fun sp hsp => by
      rw [parW]
      have h := trodAll_cons_mk (WideElems.Trod_stays laidOut recV rowV h0 (fun x hx => hB.same (hlt x hx)) (fun x hx => by simpa using hsp x hx)) trodAll_mk0
      rw [List.append_nil] at h
      exact h) (fun _ _ => rfl) (by simp)
    (hB.frame _) (fun a ha => hB.frozen ha) (Go.RowKit.ok_one (by kernel_rfl) rfl (okWide_bool_mk Tryz.underlying4 _))⟩

abbrev oneArg : Array Value := #[.agg #[.int .i64 0, .int .i64 0, .float .f64 0, .string ⟨#[]⟩, .slice none 0 0, .slice none 0 0]]
set_option maxRecDepth 100000 in
theorem readsW (os : Os) {H : Type} (enc : TypeId × Value → H) : ∃ places, DataW.whole enc Tryz.prog (atLaid os oneArg).memory Tryz.f5.params.toList Rows.fnWrittenSpec.vars false oneArg.toList 8 = some ([.agg [.lit (.int .i64 0), .lit (.int .i64 0), .lit (.float .f64 0), .lit (.string []), .nil, .nil]], [], places) :=
  ⟨[], by kernel_rfl⟩
set_option maxRecDepth 1000000 in
theorem inputW (os : Os) : Input.okWideB Tryz.checked.prog (atLaid os oneArg) 5 ⟨#[], oneArg, []⟩ = true := by kernel_rfl

set_option maxRecDepth 100000 in
theorem liftedW (os : Os) (started : os.Started) (H : Type) (enc : TypeId × Value → H) (F : Stop.Interp) :
    ReturnsInHanded {} Tryz.checked os 5 .any ((Rows.OpenSpec.upto Rows.fnWrittenSpec).preRow enc Tryz.prog Tryz.f5 Rows.fnWrittenUptoRow.domain false Rows.fnWrittenUptoRow.laid) (((Rows.OpenSpec.upto Rows.fnWrittenSpec).at F).post enc Tryz.prog Tryz.f5 false true false false) := by
  obtain ⟨places, hx⟩ := readsW os enc
  refine returnsInHanded_of_row (C := Tryz.checked) (s := Rows.OpenSpec.upto Rows.fnWrittenSpec) ownK started (by kernel_rfl) Tryz.func5
    (witness_row_atRef (enc := enc) (C := Tryz.checked) false (laidWorld os) oneArg rfl (laid_vars os oneArg) (laid_heap os oneArg) (inputW os)
      (OpenSpec.preRow_of_cond 8 hx (by kernel_rfl) (fun k hk => by cases hk; kernel_rfl) (by kernel_rfl) (laid_met os oneArg))) ?_
  intro W base args ds gs before hval hW _ hcond _ hL _ _
  exact contractW H enc W args ds gs before hW hL (bulk_ofW (hcond _ rfl))

theorem saidW : Rows.FnWrittenUptoSaid :=
  OpenClaim.holds_of_cond 5 Tryz.f5 rfl rfl rfl rfl rfl rfl rfl ⟨rfl, rfl, rfl, rfl, rfl⟩ rfl rfl rfl rfl rfl (by kernel_rfl) Tryz.func5 (by kernel_rfl)
    (of_decide_eq_true (by kernel_rfl)) (by unfold Func.isWrapper; first | (rw [if_pos (by decide +kernel)]; kernel_rfl) | (rw [if_neg (by decide +kernel)]; exact ⟨rfl, rfl⟩))
    (fun os started H enc _ F => by rw [OpenClaim.pre_eq_preRow]; exact liftedW os started H enc F)

theorem namedW : Tryz.prog.funcNamed "loop.example/pub-g01521/laws.FnWritten" = some 5 := by kernel_rfl
theorem standV : Tryz.prog.wantsStandIn 26 = false := by kernel_rfl
theorem looksW : true = Tryz.pinned.checked.prog.looks [] := by kernel_rfl
theorem plainW (f : FuncId) (fn : Func) (hf : Tryz.pinned.checked.prog.funcNamed "loop.example/pub-g01521/laws.FnWritten" = some f) (hfn : Tryz.pinned.checked.prog.funcs[f]? = some fn) :
    true = Tryz.pinned.checked.prog.looks [] ∧ ∀ (j : Nat) t, fn.params[j]? = some t → Tryz.pinned.checked.prog.wantsStandIn t = false := by
  obtain rfl : f = 5 := Option.some.inj (namedW.symm.trans hf) |>.symm
  obtain rfl : fn = Tryz.f5 := (Option.some.inj (Tryz.func5.symm.trans hfn)).symm
  refine ⟨looksW, fun j t ht => ?_⟩
  rw [parW] at ht
  obtain rfl : t = 26 := by simpa using Array.mem_of_getElem? ht
  exact standV

/-- The card of the law, at inputs of bounded bulk. -/
theorem cardW : Rows.FnWrittenUptoCardSaid :=
  Claim7.holds_tied_plain_at .later [] _ _ _ _ saidW (fun _ h => by cases h) (by kernel_rfl) (fun _ h => by cases h) fnWrittenUpto_row_tie rfl ⟨rfl, rfl⟩ (by kernel_rfl) rfl plainW (by kernel_rfl)
end Go.Proofs.YtokmkkkanphihaaGreatRDoor
