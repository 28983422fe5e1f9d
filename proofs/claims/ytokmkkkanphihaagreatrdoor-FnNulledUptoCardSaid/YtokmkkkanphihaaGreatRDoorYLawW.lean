/- laws.zzFits3, laws.means, laws.FnWritten. -/
import Derived.Test.YtokmkkkanphihaaGreatRDoorYMean
import Derived.Test.YtokmkkkanphihaaGreatRDoorRow
namespace Go.Proofs.YtokmkkkanphihaaGreatRDoor
open Go.RowKit Go.Sort

/-- A truth value is handed back. -/
def SomeB (e : Ending) : Prop := ∃ b, e = .returned (.bool b)

set_option maxHeartbeats 1600000 in
set_option maxRecDepth 100000 in
theorem Fits1_any {w : World} {ako : Option Addr} {ks : List ByteArray} {ck : Nat} (hk : ks = [] ∨ ∃ b2 o2, ako = some ⟨b2, o2, none⟩ ∧ ∀ j (h : j < ks.length), w.cell? ⟨b2, o2 + j, none⟩ = some (.string ks[j])) (hlen : ks.length ≤ lim) :
    Calls Tryz.prog 14 #[.slice ako ks.length ck] w fun e w' => SomeB e ∧ w' = w := by
  have hlen' : ks.length ≤ 1099511627776 := hlen
  have hkH := Lib.hid hk
  clear hk hlen
  by_cases hbig : (2147483647 : Int) < (ks.length : Int)
  · go_enter Tryz.func14, Tryz.ntmps14
    go_wp2_with fail
    go_ret
    exact ⟨⟨_, rfl⟩, rfl⟩
  · go_enter Tryz.func14, Tryz.ntmps14
    go_wp2_with fail
    go_loopg [10] (ks.length) (fun k i wr => ∃ j : Nat, j ≤ ks.length ∧ k = ks.length - j ∧ i = .int .i64 j ∧ wr = w)
    case atStart => exact ⟨0, Nat.zero_le _, rfl, rfl, rfl⟩
    case round =>
      obtain ⟨j, hj, hk, rfl, rfl⟩ := hrel
      by_cases hlt : j < ks.length
      · obtain ⟨b2, o2, rfl, hc⟩ : ∃ b2 o2, ako = some ⟨b2, o2, none⟩ ∧ ∀ j (h : j < ks.length), wr.cell? ⟨b2, o2 + j, none⟩ = some (.string ks[j]) := by
          rcases hkH.out with h | h
          · subst h; simp at hlt
          · exact h
        have hcj := hc j hlt
        obtain ⟨key, hkey⟩ : ∃ key, ks[j] = key := ⟨_, rfl⟩
        rw [hkey] at hcj
        clear hc hkey
        by_cases hb : (2147483647 : Int) < (key.size : Int)
        · go_wp2_with fail
          go_ret
          exact ⟨⟨_, rfl⟩, rfl⟩
        · go_wp2_with fail
          go_roundg (ks.length - (j + 1))
          case measure => omega
          case rel => exact ⟨j + 1, by omega, rfl, by go_num, rfl⟩
      · have hje : j = ks.length := by omega
        subst hje
        go_wp2_with fail
        go_ret
        exact ⟨⟨_, rfl⟩, rfl⟩

set_option maxHeartbeats 1600000 in
set_option maxRecDepth 100000 in
theorem Fits3_any {w : World} {N : Nat} {v : Val} {ls kv : Value} (hS : Subs N w v ls kv) (hN : N ≤ w.heap.size) (hW : WfV v) :
    Calls Tryz.prog 7 #[.agg (aggV v ls kv)] w fun e w' => SomeB e ∧ Kp (fun _ => False) w w' := by
  obtain ⟨k, i, r, t, l, ks⟩ := v
  simp only [WfV] at hW
  obtain ⟨_, _, _, w4, w5, w6, _, _⟩ := hW
  obtain ⟨⟨ao, c, rfl, _⟩, ⟨ako, ck, rfl, hk⟩⟩ := hS
  have hl1 : t.size ≤ 1099511627776 := w4
  have hl2 : l.length ≤ 1099511627776 := w5
  have hf : ∀ o, Calls Tryz.prog 14 #[.slice ako ks.length ck] (w.alloc o) fun e w' => SomeB e ∧ w' = w.alloc o := fun o => Fits1_any (by
    rcases hk with h | ⟨b2, o2, h1, h2, h3⟩
    · exact .inl h
    · exact .inr ⟨b2, o2, h1, fun j hj => (World.cell?_of_block (heap_alloc_old w o b2 (by omega))).trans (h3 j hj)⟩) w6
  have hfH := Lib.hid hf
  clear hk hf w4 w5 w6
  simp only [aggV]
  by_cases h1 : (2147483647 : Int) < (t.size : Int)
  · go_enter Tryz.func7, Tryz.ntmps7
    go_wp2_with fail
    go_ret
    exact ⟨⟨_, rfl⟩, (Kp.refl _ w).alloc _⟩
  · by_cases h2 : (2147483647 : Int) < (l.length : Int)
    · go_enter Tryz.func7, Tryz.ntmps7
      go_wp2_with fail
      go_ret
      exact ⟨⟨_, rfl⟩, (Kp.refl _ w).alloc _⟩
    · go_enter Tryz.func7, Tryz.ntmps7
      go_wp2_with (go_at_call 14; refine (hfH.out _).mono ?_; rintro e w2 ⟨⟨b, rfl⟩, rfl⟩)
      · go_ret
        exact ⟨⟨_, rfl⟩, (Kp.refl _ w).alloc _⟩
      · go_ret
        exact ⟨⟨_, rfl⟩, (Kp.refl _ w).alloc _⟩

set_option maxHeartbeats 1600000 in
set_option maxRecDepth 100000 in
/-- The text of a value means it. -/
theorem means_any {w : World} {v : Val} {lv kv : Value} {T : ByteArray} (hT : T = ⟨(valT v).toArray⟩) (hG : Good v) (hD : DeepV 12 v) (hU : Utf8V v) (hlen : (valT v).length ≤ lim) (hvs : vsz v ≤ lim) (hS : Subs w.heap.size w v lv kv) :
    Calls Tryz.prog 11 #[.string T, .agg (aggV v lv kv)] w (Yes w) := by
  have hTs : T.size ≤ lim := by rw [hT]; exact hlen
  have hP : ∀ W, Calls Tryz.prog 20 #[.string T] W (ParseOut W v) := fun W => by rw [hT]; exact Parse_any hG hD hlen
  have hu : ∀ W, Calls Tryz.prog 21 #[.string T] W fun e w' => e = .returned (.bool true) ∧ ∃ n, w' = W.drewN n := fun W => IsUTF8_yes hTs (by rw [hT]; exact ok_valT v hG hU)
  have hM : ∀ W S ls kz x y, (∀ k, k < w.heap.size → W.heap[k]? = w.heap[k]?) → w.heap.size ≤ W.heap.size → NSubs S W v ls kz → (∀ k, S k → k < W.heap.size) → Calls Tryz.prog 22 #[.agg (aggN v ls kz x y), .agg (aggV v lv kv)] W (Yes W) := fun W S ls kz x y h1 h2 h3 h4 =>
    Means_any _ v (Nat.le_refl _) hG hvs W w.heap.size S ls kz x y lv kv h3 (hS.step (Nat.le_refl _) h1) h2 h4
  obtain ⟨⟨ao, c, hlv, _⟩, ⟨ako, ck, hkv, _⟩⟩ : (∃ ao c, lv = .slice ao (match v with | .mk _ _ _ _ l _ => l.length) c ∧ True) ∧ (∃ ao c, kv = .slice ao (match v with | .mk _ _ _ _ _ ks => ks.length) c ∧ True) := by
    obtain ⟨k, i, r, t, l, ks⟩ := v
    obtain ⟨⟨ao, c, rfl, _⟩, ⟨ako, ck, rfl, _⟩⟩ := hS
    exact ⟨⟨ao, c, rfl, trivial⟩, ⟨ako, ck, rfl, trivial⟩⟩
  obtain ⟨k, i, r, t, l, ks⟩ := v
  simp only at hlv hkv
  subst hlv hkv
  -- the node's cells
  have hP2 : ∀ W, Calls Tryz.prog 20 #[.string T] W fun e w' => ∃ a1 n1 c1 a2 n2 c2 x y S, e = .returned (.tuple #[.agg #[.int .i64 (nodeK k), .string (nodeT k i r t), .slice a1 n1 c1, .slice a2 n2 c2, .int .i64 x, .int .i64 y], .bool true]) ∧ NSubs S w' (.mk k i r t l ks) (.slice a1 n1 c1) (.slice a2 n2 c2) ∧ (∀ k, S k → k < w'.heap.size) ∧ Kp (fun _ => False) W w' := fun W => (hP W).mono fun e w' hh => by
    obtain ⟨ls, kz, x, y, S, he, hN, hSS, hk⟩ := hh
    obtain ⟨⟨a1, c1, rfl, h1⟩, ⟨a2, c2, rfl, h2⟩⟩ := hN
    exact ⟨a1, _, c1, a2, _, c2, x, y, S, he, ⟨⟨a1, c1, rfl, h1⟩, ⟨a2, c2, rfl, h2⟩⟩, hSS, hk⟩
  have hP2H := Lib.hid hP2
  have huH := Lib.hid hu
  have hMH := Lib.hid hM
  simp only [aggV]
  simp only [aggN, aggV] at hMH
  generalize nodeK k = nk at *
  generalize nodeT k i r t = nt at *
  clear hP hP2 hu hM hT hG hD hU hlen hvs hS hTs
  go_enter Tryz.func11, Tryz.ntmps11
  go_wp2_with (first
    | (go_at_call 20; refine (hP2H.out _).mono ?_; rintro e w2 ⟨a1, n1, c1, a2, n2, c2, x, y, S, rfl, hN, hSS, hk2⟩; have hNH := Lib.hid hN; have hSSH := Lib.hid hSS; have hk2H := Lib.hid hk2; have b0 : ∀ q, w2.cell? ⟨w.heap.size, q, none⟩ = _ := (fun q => (kp_cell hk2 (by simp) q).trans (World.cell?_alloc_new w _ _ q)); have b00 := fun o => cells_alloc (hk2.at (b := w.heap.size) (by simp) (fun h => h) (heap_alloc_new w _)) o 0; have b01 := fun o => cells_alloc (hk2.at (b := w.heap.size) (by simp) (fun h => h) (heap_alloc_new w _)) o 1; have b02 := fun o => cells_alloc (hk2.at (b := w.heap.size) (by simp) (fun h => h) (heap_alloc_new w _)) o 2; have b03 := fun o => cells_alloc (hk2.at (b := w.heap.size) (by simp) (fun h => h) (heap_alloc_new w _)) o 3; have b04 := fun o => cells_alloc (hk2.at (b := w.heap.size) (by simp) (fun h => h) (heap_alloc_new w _)) o 4; have b05 := fun o => cells_alloc (hk2.at (b := w.heap.size) (by simp) (fun h => h) (heap_alloc_new w _)) o 5; simp only [List.getElem?_toArray, List.getElem?_cons_zero, List.getElem?_cons_succ] at b00 b01 b02 b03 b04 b05; clear hN hSS hk2 b0)
    | (go_at_call 21; refine (huH.out _).mono ?_; rintro e w3 ⟨rfl, n3, rfl⟩)
    | (go_at_call 22; refine (hMH.out _ S _ _ x y (fun q hq => ?_) ?_ ?_ ?_).mono ?_; exact (by exact (heap_alloc_old w2 _ q (by have := hk2H.out.size; simp at this; omega)).trans ((hk2H.out.block q (by simp; omega) (fun h => h)).trans (heap_alloc_old w _ q hq))); exact (by have := hk2H.out.size; simp at this ⊢; omega); exact hNH.out.step (fun q hq => by exact heap_alloc_old w2 _ q (hSSH.out q hq)) (fun _ h => h); exact (fun q hq => by have := hSSH.out q hq; simp; omega); rintro e w4 ⟨rfl, hk4⟩; have hk4H := Lib.hid hk4; clear hk4))
  go_ret
  exact ⟨rfl, ((((Kp.refl _ w).alloc _).trans hk2H.out).alloc _ |>.drewN n3).trans hk4H.out⟩

end Go.Proofs.YtokmkkkanphihaaGreatRDoor
