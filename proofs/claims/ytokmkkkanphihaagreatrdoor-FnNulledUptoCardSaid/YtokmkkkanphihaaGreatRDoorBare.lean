/- spec.HasBareList: if it says no, no object has a list without elements as a member (written by genBa.py). -/
import Derived.Test.YtokmkkkanphihaaGreatRDoorAre
import Derived.Test.YtokmkkkanphihaaGreatRDoorIsW
import Derived.Test.YtokmkkkanphihaaGreatRDoorPutD
namespace Go.Proofs.YtokmkkkanphihaaGreatRDoor
open Go.RowKit Go.Sort

mutual
/-- No object within a value has a list without elements as a member. -/
def NBare : Val → Prop
  | .mk k _ _ _ l _ => (k = 7 → ∀ j (h : j < l.length), bareL l[j] = false) ∧ NBareL l
def NBareL : List Val → Prop
  | [] => True
  | v :: vs => NBare v ∧ NBareL vs
end
theorem NBareL.of : ∀ {l : List Val}, (∀ j (h : j < l.length), NBare l[j]) → NBareL l
  | [], _ => by simp [NBareL]
  | v :: vs, hp => by
    simp only [NBareL]
    exact ⟨hp 0 (Nat.zero_lt_succ _), NBareL.of fun j h => hp (j + 1) (Nat.succ_lt_succ h)⟩

mutual
theorem Clean2_of : ∀ (d : Nat) (v : Val), PlainV d v → NBare v → Clean 2 v
  | d, .mk k i r t l ks, h, hb => by
    simp only [PlainV] at h
    simp only [NBare] at hb
    simp only [Clean]
    exact ⟨h.2.2.1, fun _ => hb.1, CleanL2_of (d - 1) l h.2.2.2.2.2.2.2.2.2 hb.2⟩
theorem CleanL2_of : ∀ (d : Nat) (l : List Val), PlainL d l → NBareL l → CleanL 2 l
  | _, [], _, _ => by simp [CleanL]
  | d, v :: vs, h, hb => by
    simp only [PlainL] at h
    simp only [NBareL] at hb
    simp only [CleanL]
    exact ⟨Clean2_of d v h.1 hb.1, CleanL2_of d vs h.2 hb.2⟩
end

/-- If it says no, P. -/
def SaysNo (P : Prop) (w : World) (e : Ending) (w' : World) : Prop := ∃ b, e = .returned (.bool b) ∧ (b = false → P) ∧ Kp (fun _ => False) w w'

set_option maxHeartbeats 3200000 in
set_option maxRecDepth 100000 in
theorem HasBare_any (n : Nat) : ∀ (v : Val) (w : World) (N : Nat) (ls kv : Value), vsz v ≤ n → Subs N w v ls kv → N ≤ w.heap.size → vsz v ≤ lim →
    Calls Tryz.prog 9 #[.agg (aggV v ls kv)] w (SaysNo (NBare v) w) := by
  induction n with
  | zero => intro v w N ls kv hv; cases v; simp [vsz] at hv
  | succ n ih =>
    intro v w N ls kv hv hS hN hlim
    obtain ⟨k, i, r, t, l, ks⟩ := v
    obtain ⟨⟨ao, c, rfl, hl⟩, ⟨ako, ck, rfl, hk⟩⟩ := hS
    simp only [vsz] at hv hlim
    have hvl := vszL_len l
    have hll : l.length ≤ 1099511627776 := by unfold lim at hlim; omega
    have hst : ∀ (x : Nat) (a : Addr) (w : World), (store a (.float .f64 x)).run Tryz.prog w = stored Tryz.prog w a (.float .f64 x) .plain := fun x a w => run_store Tryz.prog w a _ _ rfl
    have ihH := Lib.hid ih
    have hlH := Lib.hid hl
    have hvH := Lib.hid hv
    have hlimH := Lib.hid hlim
    clear ih hl hv hlim
    simp only [aggV]
    go_enter Tryz.func9, Tryz.ntmps9
    go_wp2_with fail
    go_loopw [8] (fun cc wr => ∃ j : Nat, j ≤ l.length ∧ cc = .int .i64 j ∧ Hid (∀ i (h : i < j) (h2 : i < l.length), (k = 7 → bareL l[i] = false) ∧ NBare l[i]) ∧ Hid (Kp (fun _ => False) (w.alloc (.cells #[.int .i64 k, .int .i64 i, .float .f64 r, .string t, .slice ao l.length c, .slice ako ks.length ck] 26)) wr)) (fun cc _ => l.length - (intOf cc).toNat)
    case atStart => exact ⟨0, Nat.zero_le _, rfl, Lib.hid (fun i h => by omega), Lib.hid (Kp.refl _ _)⟩
    case round =>
      obtain ⟨j, hj, rfl, hsv, hkp⟩ := hrel
      have k0 : wr.cell? ⟨w.heap.size, 0, none⟩ = some (.int .i64 k) := by rw [kp_cell hkp.out (by simp)]; rw [World.cell?_alloc_new]; rfl
      by_cases hlt : j < l.length
      · obtain ⟨b2, o2, rfl, hPL⟩ : ∃ b2 o2, ao = some ⟨b2, o2, none⟩ ∧ PList N w l b2 o2 := by
          rcases hlH.out with h | h
          · subst h; simp at hlt
          · exact h
        have hlw : ∀ k, k < N → wr.heap[k]? = w.heap[k]? := fun k hk => (kp_low hkp.out (by simp; omega) k hk).trans (heap_alloc_old w _ k (by omega))
        have hws : Hid (w.heap.size + 1 ≤ wr.heap.size) := Lib.hid (by have := hkp.out.size; simpa using this)
        obtain ⟨z, hz⟩ : ∃ z, l[j] = z := ⟨_, rfl⟩
        have hPz := hPL.at j hlt
        have hvz := vszL_at j hlt
        rw [hz] at hPz hvz
        obtain ⟨ls2, kv2, hS2, hb2, hc2⟩ := hPz.cells
        have hb2w : b2 < wr.heap.size := by have := hws.out; omega
        have hcall : ∀ W, (∀ q, q < N → W.heap[q]? = wr.heap[q]?) → wr.heap.size ≤ W.heap.size → Calls Tryz.prog 9 #[.agg (aggV z ls2 kv2)] W (SaysNo (NBare z) W) := fun W h1 h2 => ihH.out z W N ls2 kv2 (by have := hvH.out; omega) (hS2.step (Nat.le_refl _) fun q hq => (h1 q hq).trans (hlw q hq)) (by have := hws.out; omega) (by have := hlimH.out; omega)
        have hbz : bareL z = false → bareL l[j] = false := fun h => by rw [hz]; exact h
        have hnz : NBare z → NBare l[j] := fun h => by rw [hz]; exact h
        obtain ⟨k', i', r', t', l', ks'⟩ := z
        have d0 : wr.cell? ⟨b2, o2 + j * 6, none⟩ = some (.int .i64 k') := by rw [show o2 + j * 6 = o2 + 6 * j + 0 by omega, World.cell?_of_block (hlw b2 hb2)]; exact hc2 0 (by decide)
        have d1 : wr.cell? ⟨b2, o2 + j * 6 + 1, none⟩ = some (.int .i64 i') := by rw [show o2 + j * 6 + 1 = o2 + 6 * j + 1 by omega, World.cell?_of_block (hlw b2 hb2)]; exact hc2 1 (by decide)
        have d2 : wr.cell? ⟨b2, o2 + j * 6 + 2, none⟩ = some (.float .f64 r') := by rw [show o2 + j * 6 + 2 = o2 + 6 * j + 2 by omega, World.cell?_of_block (hlw b2 hb2)]; exact hc2 2 (by decide)
        have d3 : wr.cell? ⟨b2, o2 + j * 6 + 3, none⟩ = some (.string t') := by rw [show o2 + j * 6 + 3 = o2 + 6 * j + 3 by omega, World.cell?_of_block (hlw b2 hb2)]; exact hc2 3 (by decide)
        have d4 : wr.cell? ⟨b2, o2 + j * 6 + 4, none⟩ = some ls2 := by rw [show o2 + j * 6 + 4 = o2 + 6 * j + 4 by omega, World.cell?_of_block (hlw b2 hb2)]; exact hc2 4 (by decide)
        have d5 : wr.cell? ⟨b2, o2 + j * 6 + 5, none⟩ = some kv2 := by rw [show o2 + j * 6 + 5 = o2 + 6 * j + 5 by omega, World.cell?_of_block (hlw b2 hb2)]; exact hc2 5 (by decide)
        obtain ⟨⟨ao2, cq, rfl, _⟩, ⟨ak2, cr, rfl, _⟩⟩ := hS2
        simp only [aggV] at hcall
        have hcallH := Lib.hid hcall
        have hbzH := Lib.hid hbz
        have hnzH := Lib.hid hnz
        clear hcall hz hPz hvz hc2 hlw hPL hbz hnz
        have hne1 : ¬ w.heap.size = wr.heap.size := by have := hws.out; omega
        have hne2 : ¬ wr.heap.size = w.heap.size := by omega
        have hne3 : ¬ b2 = wr.heap.size := by omega
        have hne4 : ¬ wr.heap.size = b2 := by omega
        clear hb2w hb2
        have k0a : ∀ o, (wr.alloc o).cell? ⟨w.heap.size, 0, none⟩ = some (.int .i64 k) := fun o => (World.cell?_of_block (heap_alloc_old wr o w.heap.size (by have := hws.out; omega))).trans k0
        clear k0
        have hNw : N ≤ wr.heap.size := by have := hws.out; omega
        have hNwH := Lib.hid hNw
        clear hNw
        by_cases hbare : (k = 7 ∧ k' = 6) ∧ l'.length = 0
        · obtain ⟨⟨rfl, rfl⟩, h0⟩ := hbare
          have h0' : ((l'.length : Int) == 0) = true := by simp [h0]
          clear h0
          go_wp2_with fail
          go_ret
          exact ⟨true, rfl, (fun h => by cases h), ((Kp.refl _ w).alloc _).trans (hkp.out.alloc _)⟩
        · have hnb : Hid (k = 7 → bareL l[j] = false) := Lib.hid fun h7 => hbzH.out (by
            unfold bareL
            by_cases h6 : k' = 6
            · have hl0 : l'.length ≠ 0 := fun h => hbare ⟨⟨h7, h6⟩, h⟩
              cases l' with
              | nil => exact absurd rfl hl0
              | cons a b => simp
            · simp [h6])
          have hcase : ((k == 7) = false) ∨ ((k == 7) = true ∧ (k' == 6) = false) ∨ ((k == 7) = true ∧ (k' == 6) = true ∧ ((l'.length : Int) == 0) = false) := by
            by_cases h7 : k = 7
            · by_cases h6 : k' = 6
              · exact .inr (.inr ⟨by simpa using h7, by simpa using h6, by simp only [beq_eq_false_iff_ne]; exact fun h => hbare ⟨⟨h7, h6⟩, by omega⟩⟩)
              · exact .inr (.inl ⟨by simpa using h7, by simpa using h6⟩)
            · exact .inl (by simpa using h7)
          clear hbare hbzH
          rcases hcase with hc | ⟨hc, hc2⟩ | ⟨hc, hc2, hc3⟩
          · go_wp2_with (go_at_call 9; refine (hcallH.out _ (fun q hq => heap_alloc_old wr _ q (by have := hNwH.out; omega)) (by simp)).mono ?_; rintro e w2 ⟨bz, rfl, hbz, hk2⟩; have hbzH2 := Lib.hid hbz; have hk2H := Lib.hid ((hkp.out.alloc _).trans hk2); clear hbz hk2)
            · go_ret
              exact ⟨true, rfl, (fun h => by cases h), ((Kp.refl _ w).alloc _).trans hk2H.out⟩
            · have hbf : bz = false := by assumption
              have hnew : NBare l[j] := hnzH.out (hbzH2.out hbf)
              have hall : ∀ i (h : i < j + 1) (h2 : i < l.length), (k = 7 → bareL l[i] = false) ∧ NBare l[i] := fun i h h2 => by
                by_cases hij : i = j
                · subst hij; exact ⟨hnb.out, hnew⟩
                · exact hsv.out i (by omega) h2
              go_roundw
              case rel => first | exact ⟨j + 1, by omega, by go_num, Lib.hid hall, Lib.hid hk2H.out⟩ | ((repeat apply Exists.intro); exact ⟨⟨j + 1, by omega, by go_num, Lib.hid hall, Lib.hid hk2H.out⟩, rfl⟩)
              case measure => simp [intOf]; omega
          · go_wp2_with (go_at_call 9; refine (hcallH.out _ (fun q hq => heap_alloc_old wr _ q (by have := hNwH.out; omega)) (by simp)).mono ?_; rintro e w2 ⟨bz, rfl, hbz, hk2⟩; have hbzH2 := Lib.hid hbz; have hk2H := Lib.hid ((hkp.out.alloc _).trans hk2); clear hbz hk2)
            · go_ret
              exact ⟨true, rfl, (fun h => by cases h), ((Kp.refl _ w).alloc _).trans hk2H.out⟩
            · have hbf : bz = false := by assumption
              have hnew : NBare l[j] := hnzH.out (hbzH2.out hbf)
              have hall : ∀ i (h : i < j + 1) (h2 : i < l.length), (k = 7 → bareL l[i] = false) ∧ NBare l[i] := fun i h h2 => by
                by_cases hij : i = j
                · subst hij; exact ⟨hnb.out, hnew⟩
                · exact hsv.out i (by omega) h2
              go_roundw
              case rel => first | exact ⟨j + 1, by omega, by go_num, Lib.hid hall, Lib.hid hk2H.out⟩ | ((repeat apply Exists.intro); exact ⟨⟨j + 1, by omega, by go_num, Lib.hid hall, Lib.hid hk2H.out⟩, rfl⟩)
              case measure => simp [intOf]; omega
          · go_wp2_with (go_at_call 9; refine (hcallH.out _ (fun q hq => heap_alloc_old wr _ q (by have := hNwH.out; omega)) (by simp)).mono ?_; rintro e w2 ⟨bz, rfl, hbz, hk2⟩; have hbzH2 := Lib.hid hbz; have hk2H := Lib.hid ((hkp.out.alloc _).trans hk2); clear hbz hk2)
            · go_ret
              exact ⟨true, rfl, (fun h => by cases h), ((Kp.refl _ w).alloc _).trans hk2H.out⟩
            · have hbf : bz = false := by assumption
              have hnew : NBare l[j] := hnzH.out (hbzH2.out hbf)
              have hall : ∀ i (h : i < j + 1) (h2 : i < l.length), (k = 7 → bareL l[i] = false) ∧ NBare l[i] := fun i h h2 => by
                by_cases hij : i = j
                · subst hij; exact ⟨hnb.out, hnew⟩
                · exact hsv.out i (by omega) h2
              go_roundw
              case rel => first | exact ⟨j + 1, by omega, by go_num, Lib.hid hall, Lib.hid hk2H.out⟩ | ((repeat apply Exists.intro); exact ⟨⟨j + 1, by omega, by go_num, Lib.hid hall, Lib.hid hk2H.out⟩, rfl⟩)
              case measure => simp [intOf]; omega
      · have hje : j = l.length := by omega
        have hfin : Hid (NBare (.mk k i r t l ks)) := Lib.hid (by
          simp only [NBare]
          exact ⟨fun h7 q hq => (hsv.out q (by omega) hq).1 h7, NBareL.of fun q hq => (hsv.out q (by omega) hq).2⟩)
        clear hje k0
        go_wp2_with fail
        go_ret
        exact ⟨false, rfl, fun _ => hfin.out, ((Kp.refl _ w).alloc _).trans hkp.out⟩
end Go.Proofs.YtokmkkkanphihaaGreatRDoor
