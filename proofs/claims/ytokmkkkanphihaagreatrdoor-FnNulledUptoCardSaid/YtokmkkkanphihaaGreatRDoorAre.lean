/- spec.AreShort: what it says of a value. -/
import Derived.Test.YtokmkkkanphihaaGreatRDoorYGuard
import Derived.Test.YtokmkkkanphihaaGreatRDoorWr
namespace Go.Proofs.YtokmkkkanphihaaGreatRDoor
open Go.RowKit Go.Sort

mutual
/-- The words of a value's numbers. -/
def FinV : Val → Prop
  | .mk _ _ r _ l _ => (r < 2 ^ 64 ∧ r % 2 ^ 63 < 2047 * 2 ^ 52) ∧ FinL l
def FinL : List Val → Prop
  | [] => True
  | v :: vs => FinV v ∧ FinL vs
end
theorem FinL.at : ∀ {l : List Val}, FinL l → ∀ j (h : j < l.length), FinV l[j]
  | [], _, j, h => by simp at h
  | v :: vs, hp, 0, _ => by simpa [FinL] using hp.1
  | v :: vs, hp, j + 1, h => by
    simp only [FinL] at hp
    simpa using FinL.at hp.2 j (by simpa using h)

mutual
/-- All numbers of a value have few digits. -/
def ShortV : Val → Prop
  | .mk k _ r _ l _ => (k = 4 → ∃ t, RealTxt r t) ∧ ShortL l
def ShortL : List Val → Prop
  | [] => True
  | v :: vs => ShortV v ∧ ShortL vs
end
theorem ShortL.of : ∀ {l : List Val}, (∀ j (h : j < l.length), ShortV l[j]) → ShortL l
  | [], _ => by simp [ShortL]
  | v :: vs, hp => by
    simp only [ShortL]
    exact ⟨hp 0 (Nat.zero_lt_succ _), ShortL.of fun j h => hp (j + 1) (Nat.succ_lt_succ h)⟩

/-- The six cells of a value within a list. -/
theorem PVal.cells {N : Nat} {w : World} {v : Val} {b o : Nat} (h : PVal N w v b o) : ∃ ls kv, Subs N w v ls kv ∧ b < N ∧ ∀ j (hj : j < 6), w.cell? ⟨b, o + j, none⟩ = some ((aggV v ls kv)[j]'(by obtain ⟨k, i, r, t, l, ks⟩ := v; exact hj)) := by
  obtain ⟨k, i, r, t, l, ks⟩ := v
  simp only [PVal] at h
  obtain ⟨hN, c0, c1, c2, c3, ⟨ao, c, c4, hl⟩, ⟨ako, ck, c5, hk⟩⟩ := h
  refine ⟨_, _, ⟨⟨ao, c, rfl, hl⟩, ⟨ako, ck, rfl, hk⟩⟩, hN, fun j hj => ?_⟩
  rcases j with _ | _ | _ | _ | _ | _ | j
  · exact c0
  · exact c1
  · exact c2
  · exact c3
  · exact c4
  · exact c5
  · omega

/-- What a guard over values answers: no store, and if it says yes, P. -/
def Says (P : Prop) (w : World) (e : Ending) (w' : World) : Prop := ∃ b, e = .returned (.bool b) ∧ (b = true → P) ∧ Kp (fun _ => False) w w'

theorem kp_low {N : Nat} {w w' : World} (h : Kp (fun _ => False) w w') (hN : N ≤ w.heap.size) : ∀ k, k < N → w'.heap[k]? = w.heap[k]? := fun k hk => h.block k (by omega) (fun h => h)

theorem kp_cell {w w' : World} (h : Kp (fun _ => False) w w') {b : Nat} (hb : b < w.heap.size) (i : Nat) : w'.cell? ⟨b, i, none⟩ = w.cell? ⟨b, i, none⟩ := World.cell?_of_block (h.block b hb (fun h => h))

set_option maxHeartbeats 3200000 in
set_option maxRecDepth 100000 in
theorem AreShort_any (n : Nat) : ∀ (v : Val) (w : World) (N : Nat) (ls kv : Value), vsz v ≤ n → Subs N w v ls kv → N ≤ w.heap.size → FinV v → vsz v ≤ lim →
    Calls Tryz.prog 16 #[.agg (aggV v ls kv)] w (Says (ShortV v) w) := by
  induction n with
  | zero => intro v w N ls kv hv; cases v; simp [vsz] at hv
  | succ n ih =>
    intro v w N ls kv hv hS hN hF hlim
    obtain ⟨k, i, r, t, l, ks⟩ := v
    obtain ⟨⟨ao, c, rfl, hl⟩, ⟨ako, ck, rfl, hk⟩⟩ := hS
    simp only [FinV] at hF
    obtain ⟨⟨hr1, hr2⟩, hFL⟩ := hF
    simp only [vsz] at hv hlim
    have hvl := vszL_len l
    have hll : l.length ≤ 1099511627776 := by unfold lim at hlim; omega
    have hsh := IsShort_any hr1 hr2
    have hshH := Lib.hid hsh
    have ihH := Lib.hid ih
    have hlH := Lib.hid hl
    have hFH := Lib.hid hFL
    have hvH := Lib.hid hv
    have hlimH := Lib.hid hlim
    clear hr1 hr2 hsh ih hl hFL hk hv hlim hvl
    simp only [aggV]
    have hloop : ∀ (wr0 : World), wr0 = w.alloc (.cells #[.int .i64 k, .int .i64 i, .float .f64 r, .string t, .slice ao l.length c, .slice ako ks.length ck] 26) → True := fun _ _ => trivial
    clear hloop
    by_cases hk4 : k = 4
    · subst hk4
      go_enter Tryz.func16, Tryz.ntmps16
      go_wp2_with (go_at_call 27; refine (hshH.out _).mono ?_; rintro ev w2 ⟨bs, rfl, hbs, rfl⟩; have hbsH := Lib.hid hbs; clear hbs)
      · go_ret
        exact ⟨false, rfl, (fun h => by cases h), (Kp.refl _ w).alloc _⟩
      · obtain rfl : bs = true := by simpa using ‹(!bs) = false›
        have hk4S : Hid (True → ∃ t, RealTxt r t) := Lib.hid (fun _ => hbsH.out rfl)
        go_loopw [16] (fun cc wr => ∃ j : Nat, j ≤ l.length ∧ cc = .int .i64 j ∧ Hid (∀ i (h : i < j) (h2 : i < l.length), ShortV l[i]) ∧ Hid (Kp (fun _ => False) (w.alloc (.cells #[.int .i64 4, .int .i64 i, .float .f64 r, .string t, .slice ao l.length c, .slice ako ks.length ck] 26)) wr)) (fun cc _ => l.length - (intOf cc).toNat)
        case atStart => exact ⟨0, Nat.zero_le _, rfl, Lib.hid (fun i h => by omega), Lib.hid (Kp.refl _ _)⟩
        case round =>
          obtain ⟨j, hj, rfl, hsv, hkp⟩ := hrel
          have k4 : wr.cell? ⟨w.heap.size, 4, none⟩ = some (.slice ao l.length c) := by rw [kp_cell hkp.out (by simp)]; rw [World.cell?_alloc_new]; rfl
          by_cases hlt : j < l.length
          · obtain ⟨b2, o2, rfl, hPL⟩ : ∃ b2 o2, ao = some ⟨b2, o2, none⟩ ∧ PList N w l b2 o2 := by
              rcases hlH.out with h | h
              · subst h; simp at hlt
              · exact h
            have hlw : ∀ k, k < N → wr.heap[k]? = w.heap[k]? := fun k hk => (kp_low hkp.out (by simp; omega) k hk).trans (heap_alloc_old w _ k (by omega))
            obtain ⟨z, hz⟩ : ∃ z, l[j] = z := ⟨_, rfl⟩
            have hPz := hPL.at j hlt
            have hFz := hFH.out.at j hlt
            have hvz := vszL_at j hlt
            rw [hz] at hPz hFz hvz
            obtain ⟨ls2, kv2, hS2, hb2, hc2⟩ := hPz.cells
            have hcall := ihH.out z wr N ls2 kv2 (by have := hvH.out; omega) (hS2.step (Nat.le_refl _) hlw) (by have := hkp.out.size; simp at this; omega) hFz (by have := hlimH.out; omega)
            obtain ⟨k', i', r', t', l', ks'⟩ := z
            have d0 : wr.cell? ⟨b2, o2 + j * 6, none⟩ = some (.int .i64 k') := by rw [show o2 + j * 6 = o2 + 6 * j + 0 by omega, World.cell?_of_block (hlw b2 hb2)]; exact hc2 0 (by decide)
            have d1 : wr.cell? ⟨b2, o2 + j * 6 + 1, none⟩ = some (.int .i64 i') := by rw [show o2 + j * 6 + 1 = o2 + 6 * j + 1 by omega, World.cell?_of_block (hlw b2 hb2)]; exact hc2 1 (by decide)
            have d2 : wr.cell? ⟨b2, o2 + j * 6 + 2, none⟩ = some (.float .f64 r') := by rw [show o2 + j * 6 + 2 = o2 + 6 * j + 2 by omega, World.cell?_of_block (hlw b2 hb2)]; exact hc2 2 (by decide)
            have d3 : wr.cell? ⟨b2, o2 + j * 6 + 3, none⟩ = some (.string t') := by rw [show o2 + j * 6 + 3 = o2 + 6 * j + 3 by omega, World.cell?_of_block (hlw b2 hb2)]; exact hc2 3 (by decide)
            have d4 : wr.cell? ⟨b2, o2 + j * 6 + 4, none⟩ = some ls2 := by rw [show o2 + j * 6 + 4 = o2 + 6 * j + 4 by omega, World.cell?_of_block (hlw b2 hb2)]; exact hc2 4 (by decide)
            have d5 : wr.cell? ⟨b2, o2 + j * 6 + 5, none⟩ = some kv2 := by rw [show o2 + j * 6 + 5 = o2 + 6 * j + 5 by omega, World.cell?_of_block (hlw b2 hb2)]; exact hc2 5 (by decide)
            obtain ⟨⟨ao2, cq, rfl, _⟩, ⟨ak2, cr, rfl, _⟩⟩ := hS2
            simp only [aggV] at hcall
            have hcallH := Lib.hid hcall
            have hzH := Lib.hid hz
            clear hcall hz hPz hFz hvz hc2 hlw hPL
            go_wp2_with (go_at_call 16; refine hcallH.out.mono ?_; rintro ev w2 ⟨bz, rfl, hbz, hk2⟩; have hbzH := Lib.hid hbz; have hk2H := Lib.hid hk2; clear hbz hk2)
            · go_ret
              exact ⟨false, rfl, (fun h => by cases h), ((Kp.refl _ w).alloc _).trans (hkp.out.trans hk2H.out)⟩
            · have hbt : bz = true := by simpa using ‹(!bz) = false›
              have hnew : ShortV l[j] := by rw [hzH.out]; exact hbzH.out hbt
              have hall : ∀ i (h : i < j + 1) (h2 : i < l.length), ShortV l[i] := fun i h h2 => by
                by_cases hij : i = j
                · subst hij; exact hnew
                · exact hsv.out i (by omega) h2
              go_roundw
              case rel => first | exact ⟨j + 1, by omega, by go_num, Lib.hid hall, Lib.hid (hkp.out.trans hk2H.out)⟩ | ((repeat apply Exists.intro); exact ⟨⟨j + 1, by omega, by go_num, Lib.hid hall, Lib.hid (hkp.out.trans hk2H.out)⟩, rfl⟩)
              case measure => simp [intOf]; omega
          · have hje : j = l.length := by omega
            have hall : ShortL l := ShortL.of fun i h => hsv.out i (by omega) h
            have hfin : ShortV (.mk 4 i r t l ks) := by simp only [ShortV]; first | exact ⟨hk4S.out, hall⟩ | exact ⟨fun _ => hk4S.out trivial, hall⟩
            have hfinH := Lib.hid hfin
            clear hfin hall hje
            go_wp2_with fail
            go_ret
            exact ⟨true, rfl, fun _ => hfinH.out, ((Kp.refl _ w).alloc _).trans hkp.out⟩

    · have hkb : (k == 4) = false := by simpa using hk4
      have hk4S : Hid (k = 4 → ∃ t, RealTxt r t) := Lib.hid (fun h => absurd h hk4)
      clear hk4
      go_enter Tryz.func16, Tryz.ntmps16
      go_wp2_with fail
      go_loopw [16] (fun cc wr => ∃ j : Nat, j ≤ l.length ∧ cc = .int .i64 j ∧ Hid (∀ i (h : i < j) (h2 : i < l.length), ShortV l[i]) ∧ Hid (Kp (fun _ => False) (w.alloc (.cells #[.int .i64 k, .int .i64 i, .float .f64 r, .string t, .slice ao l.length c, .slice ako ks.length ck] 26)) wr)) (fun cc _ => l.length - (intOf cc).toNat)
      case atStart => exact ⟨0, Nat.zero_le _, rfl, Lib.hid (fun i h => by omega), Lib.hid (Kp.refl _ _)⟩
      case round =>
        obtain ⟨j, hj, rfl, hsv, hkp⟩ := hrel
        have k4 : wr.cell? ⟨w.heap.size, 4, none⟩ = some (.slice ao l.length c) := by rw [kp_cell hkp.out (by simp)]; rw [World.cell?_alloc_new]; rfl
        by_cases hlt : j < l.length
        · obtain ⟨b2, o2, rfl, hPL⟩ : ∃ b2 o2, ao = some ⟨b2, o2, none⟩ ∧ PList N w l b2 o2 := by
            rcases hlH.out with h | h
            · subst h; simp at hlt
            · exact h
          have hlw : ∀ k, k < N → wr.heap[k]? = w.heap[k]? := fun k hk => (kp_low hkp.out (by simp; omega) k hk).trans (heap_alloc_old w _ k (by omega))
          obtain ⟨z, hz⟩ : ∃ z, l[j] = z := ⟨_, rfl⟩
          have hPz := hPL.at j hlt
          have hFz := hFH.out.at j hlt
          have hvz := vszL_at j hlt
          rw [hz] at hPz hFz hvz
          obtain ⟨ls2, kv2, hS2, hb2, hc2⟩ := hPz.cells
          have hcall := ihH.out z wr N ls2 kv2 (by have := hvH.out; omega) (hS2.step (Nat.le_refl _) hlw) (by have := hkp.out.size; simp at this; omega) hFz (by have := hlimH.out; omega)
          obtain ⟨k', i', r', t', l', ks'⟩ := z
          have d0 : wr.cell? ⟨b2, o2 + j * 6, none⟩ = some (.int .i64 k') := by rw [show o2 + j * 6 = o2 + 6 * j + 0 by omega, World.cell?_of_block (hlw b2 hb2)]; exact hc2 0 (by decide)
          have d1 : wr.cell? ⟨b2, o2 + j * 6 + 1, none⟩ = some (.int .i64 i') := by rw [show o2 + j * 6 + 1 = o2 + 6 * j + 1 by omega, World.cell?_of_block (hlw b2 hb2)]; exact hc2 1 (by decide)
          have d2 : wr.cell? ⟨b2, o2 + j * 6 + 2, none⟩ = some (.float .f64 r') := by rw [show o2 + j * 6 + 2 = o2 + 6 * j + 2 by omega, World.cell?_of_block (hlw b2 hb2)]; exact hc2 2 (by decide)
          have d3 : wr.cell? ⟨b2, o2 + j * 6 + 3, none⟩ = some (.string t') := by rw [show o2 + j * 6 + 3 = o2 + 6 * j + 3 by omega, World.cell?_of_block (hlw b2 hb2)]; exact hc2 3 (by decide)
          have d4 : wr.cell? ⟨b2, o2 + j * 6 + 4, none⟩ = some ls2 := by rw [show o2 + j * 6 + 4 = o2 + 6 * j + 4 by omega, World.cell?_of_block (hlw b2 hb2)]; exact hc2 4 (by decide)
          have d5 : wr.cell? ⟨b2, o2 + j * 6 + 5, none⟩ = some kv2 := by rw [show o2 + j * 6 + 5 = o2 + 6 * j + 5 by omega, World.cell?_of_block (hlw b2 hb2)]; exact hc2 5 (by decide)
          obtain ⟨⟨ao2, cq, rfl, _⟩, ⟨ak2, cr, rfl, _⟩⟩ := hS2
          simp only [aggV] at hcall
          have hcallH := Lib.hid hcall
          have hzH := Lib.hid hz
          clear hcall hz hPz hFz hvz hc2 hlw hPL
          go_wp2_with (go_at_call 16; refine hcallH.out.mono ?_; rintro ev w2 ⟨bz, rfl, hbz, hk2⟩; have hbzH := Lib.hid hbz; have hk2H := Lib.hid hk2; clear hbz hk2)
          · go_ret
            exact ⟨false, rfl, (fun h => by cases h), ((Kp.refl _ w).alloc _).trans (hkp.out.trans hk2H.out)⟩
          · have hbt : bz = true := by simpa using ‹(!bz) = false›
            have hnew : ShortV l[j] := by rw [hzH.out]; exact hbzH.out hbt
            have hall : ∀ i (h : i < j + 1) (h2 : i < l.length), ShortV l[i] := fun i h h2 => by
              by_cases hij : i = j
              · subst hij; exact hnew
              · exact hsv.out i (by omega) h2
            go_roundw
            case rel => first | exact ⟨j + 1, by omega, by go_num, Lib.hid hall, Lib.hid (hkp.out.trans hk2H.out)⟩ | ((repeat apply Exists.intro); exact ⟨⟨j + 1, by omega, by go_num, Lib.hid hall, Lib.hid (hkp.out.trans hk2H.out)⟩, rfl⟩)
            case measure => simp [intOf]; omega
        · have hje : j = l.length := by omega
          have hall : ShortL l := ShortL.of fun i h => hsv.out i (by omega) h
          have hfin : ShortV (.mk k i r t l ks) := by simp only [ShortV]; first | exact ⟨hk4S.out, hall⟩ | exact ⟨fun _ => hk4S.out trivial, hall⟩
          have hfinH := Lib.hid hfin
          clear hfin hall hje
          go_wp2_with fail
          go_ret
          exact ⟨true, rfl, fun _ => hfinH.out, ((Kp.refl _ w).alloc _).trans hkp.out⟩

end Go.Proofs.YtokmkkkanphihaaGreatRDoor
