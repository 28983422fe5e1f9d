/- spec.IsPlain: what it says of a value (written by genIP.py). -/
import Derived.Test.YtokmkkkanphihaaGreatRDoorUtfW
namespace Go.Proofs.YtokmkkkanphihaaGreatRDoor
open Go.RowKit Go.Sort

mutual
/-- What IsPlain finds. -/
def PlainV : Nat → Val → Prop
  | d, .mk k i r t l ks => 0 < d ∧ (1 ≤ k ∧ k ≤ 7) ∧ (k = 2 → i = 0 ∨ i = 1) ∧ r % 2 ^ 63 < 2047 * 2 ^ 52 ∧ Utf.ok t.data.toList = true ∧ (k = 7 → ks.length = l.length) ∧ (ks ≠ [] → k = 7) ∧
      (∀ j (h : j < ks.length), Utf.ok ks[j].data.toList = true) ∧ (l ≠ [] → 6 ≤ k) ∧ PlainL (d - 1) l
def PlainL : Nat → List Val → Prop
  | _, [] => True
  | d, v :: vs => PlainV d v ∧ PlainL d vs
end
theorem PlainL.of {d : Nat} : ∀ {l : List Val}, (∀ j (h : j < l.length), PlainV d l[j]) → PlainL d l
  | [], _ => by simp [PlainL]
  | v :: vs, hp => by
    simp only [PlainL]
    exact ⟨hp 0 (Nat.zero_lt_succ _), PlainL.of fun j h => hp (j + 1) (Nat.succ_lt_succ h)⟩

mutual
/-- What a value is made of: sizes, and the ranges of its numbers. -/
def WfV : Val → Prop
  | .mk k i r t l ks => (-9223372036854775808 ≤ k ∧ k ≤ 9223372036854775807) ∧ (-9223372036854775808 ≤ i ∧ i ≤ 9223372036854775807) ∧ r < 2 ^ 64 ∧ t.size ≤ lim ∧ l.length ≤ lim ∧ ks.length ≤ lim ∧ (∀ j (h : j < ks.length), ks[j].size ≤ lim) ∧ WfL l
def WfL : List Val → Prop
  | [] => True
  | v :: vs => WfV v ∧ WfL vs
end
theorem WfL.at : ∀ {l : List Val}, WfL l → ∀ j (h : j < l.length), WfV l[j]
  | [], _, j, h => by simp at h
  | v :: vs, hp, 0, _ => by simpa [WfL] using hp.1
  | v :: vs, hp, j + 1, h => by
    simp only [WfL] at hp
    simpa using WfL.at hp.2 j (by simpa using h)

theorem zero_eq : (FloatKind.f64.format.order 0 0 != some .eq) = false := by decide +kernel

/-- IsUTF8, its answer known. -/
theorem IsUTF8_yes {t : ByteArray} {w : World} (hs : t.size ≤ lim) (h : Utf.ok t.data.toList = true) : Calls Tryz.prog 21 #[.string t] w fun e w' => e = .returned (.bool true) ∧ ∃ n, w' = w.drewN n := by
  have := IsUTF8_any t w hs
  rwa [h] at this
theorem IsUTF8_no {t : ByteArray} {w : World} (hs : t.size ≤ lim) (h : ¬ Utf.ok t.data.toList = true) : Calls Tryz.prog 21 #[.string t] w fun e w' => e = .returned (.bool false) ∧ ∃ n, w' = w.drewN n := by
  have := IsUTF8_any t w hs
  rw [Bool.not_eq_true] at h
  rwa [h] at this

set_option maxHeartbeats 12800000 in
set_option maxRecDepth 100000 in
theorem IsPlain_a {d N : Nat} {w : World} {k : Int} {i : Int} {r c ck : Nat} {t : ByteArray} {l : List Val} {ks : List ByteArray} {ao ako : Option Addr} (hk2 : ¬ k = 2)
    (hd : 0 < d) (hd12 : d ≤ 12) (hkr : 1 ≤ k ∧ k ≤ 7) (hr : r % 2 ^ 63 < 2047 * 2 ^ 52) (hr64 : r < 2 ^ 64) (hu : Utf.ok t.data.toList = true) (hts : t.size ≤ lim) (hll : l.length ≤ lim) (hkls : ks.length ≤ lim) (hksz : ∀ j (h : j < ks.length), ks[j].size ≤ lim)
    (hl : l = [] ∨ ∃ b2 o2, ao = some ⟨b2, o2, none⟩ ∧ PList N w l b2 o2) (hk : ks = [] ∨ ∃ b2 o2, ako = some ⟨b2, o2, none⟩ ∧ b2 < N ∧ ∀ j (h : j < ks.length), w.cell? ⟨b2, o2 + j, none⟩ = some (.string ks[j])) (hN : N ≤ w.heap.size) (hWL : WfL l)
    (ih : ∀ (v : Val) (w : World) (N : Nat) (ls kv : Value), Subs N w v ls kv → N ≤ w.heap.size → WfV v → Calls Tryz.prog 15 #[.agg (aggV v ls kv), .int .i64 ((d - 1 : Nat) : Int)] w (Says (PlainV (d - 1) v) w)) :
    Calls Tryz.prog 15 #[.agg #[.int .i64 k, .int .i64 i, .float .f64 r, .string t, .slice ao l.length c, .slice ako ks.length ck], .int .i64 d] w (Says (PlainV d (.mk k i r t l ks)) w) := by
  obtain ⟨x, neg, hx, hrx⟩ := word_split hr64 hr
  have hrx' : r = x ∨ r = x + 2 ^ 63 := by rw [hrx]; cases neg <;> simp [signW]
  have hrr : (FloatKind.f64.format.order r r != some .eq) = false := (rr_fin hx hrx').1
  have hsub : ∀ w, (binOp .sub 22 (.float .f64 r) (.float .f64 r)).run Tryz.prog w = .ok (.float .f64 0) w := fun w => run_float_arith w .sub _ .f64 _ _ _ (rr_fin hx hrx').2
  have hz := zero_eq
  have hd0 : ((d : Int) == 0) = false := by rw [beq_eq_false_iff_ne]; omega
  have huc := fun W => IsUTF8_yes (w := W) hts hu
  have hucH := Lib.hid huc
  have hdH := Lib.hid hd
  have hrH := Lib.hid hr
  have huH := Lib.hid hu
  have hlH := Lib.hid hl
  have hkH := Lib.hid hk
  have hWLH := Lib.hid hWL
  have ihH := Lib.hid ih
  have hkszH := Lib.hid hksz
  have hd1H : Hid ((d : Int) - 1 = ((d - 1 : Nat) : Int)) := Lib.hid (by omega)
  have hll' : l.length ≤ 1099511627776 := hll
  have hkl' : ks.length ≤ 1099511627776 := hkls
  obtain ⟨hk1, hk7'⟩ := hkr
  clear hrx hrx' hx hu hr hr64 hl hk hWL ih hksz huc hts hll hkls
  have hk2b : (k == 2) = false := by rw [beq_eq_false_iff_ne]; exact hk2
  have hk2H := Lib.hid hk2
  clear hk2
  by_cases h7 : k = 7
  · by_cases hle : ks.length = l.length
    · have hklH : Hid (k = 7 → ks.length = l.length) := Lib.hid (fun _ => hle)
      have hleb : (((ks.length : Nat) : Int) != ((l.length : Nat) : Int)) = false := by rw [bne_eq_false_iff_eq]; omega
      have hleb2 : (ks.length != l.length) = false := by rw [bne_eq_false_iff_eq]; exact hle
      have h7b : (k == 7) = true := by rw [beq_iff_eq]; exact h7
      clear h7 hle
      go_enter Tryz.func15, Tryz.ntmps15
      go_wp2_with (go_at_call 21; refine (hucH.out _).mono ?_; rintro ev w2 ⟨rfl, nu, rfl⟩)
      go_loopw [72] (fun cc wr => ∃ j : Nat, j ≤ ks.length ∧ cc = .int .i64 j ∧ Hid (∀ i (h : i < j) (h2 : i < ks.length), Utf.ok ks[i].data.toList = true) ∧ Hid (0 < j → (k : Int) = 7) ∧ Hid (Kp (fun _ => False) (w.alloc (.cells #[.int .i64 k, .int .i64 i, .float .f64 r, .string t, .slice ao l.length c, .slice ako ks.length ck] 26)) wr)) (fun cc _ => ks.length - (intOf cc).toNat)
      case atStart => exact ⟨0, Nat.zero_le _, rfl, Lib.hid (fun i h => by omega), Lib.hid (fun h => by omega), Lib.hid ((Kp.refl _ _).drewN _)⟩
      case round =>
        obtain ⟨j, hj, rfl, hsu, hs7, hkp⟩ := hrel
        have k0 : wr.cell? ⟨w.heap.size, 0, none⟩ = some (.int .i64 k) := by rw [kp_cell hkp.out (by simp)]; rw [World.cell?_alloc_new]; rfl
        have k4 : wr.cell? ⟨w.heap.size, 4, none⟩ = some (.slice ao l.length c) := by rw [kp_cell hkp.out (by simp)]; rw [World.cell?_alloc_new]; rfl
        have k5 : wr.cell? ⟨w.heap.size, 5, none⟩ = some (.slice ako ks.length ck) := by rw [kp_cell hkp.out (by simp)]; rw [World.cell?_alloc_new]; rfl
        by_cases hlt : j < ks.length
        · obtain ⟨b3, o3, rfl, hb3, hkey⟩ : ∃ b3 o3, ako = some ⟨b3, o3, none⟩ ∧ b3 < N ∧ ∀ j (h : j < ks.length), w.cell? ⟨b3, o3 + j, none⟩ = some (.string ks[j]) := by
            rcases hkH.out with h | h
            · subst h; simp at hlt
            · exact h
          have hlw : ∀ k, k < N → wr.heap[k]? = w.heap[k]? := fun k hk => (kp_low hkp.out (by simp; omega) k hk).trans (heap_alloc_old w _ k (by omega))
          have hkq : ∀ q (h : q < ks.length), wr.cell? ⟨b3, o3 + q, none⟩ = some (.string ks[q]) := fun q h => (World.cell?_of_block (hlw b3 hb3)).trans (hkey q h)
          have hkj := hkq j hlt
          have hkqH := Lib.hid hkq
          have hksz := hkszH.out j hlt
          obtain ⟨key, hkeyj⟩ : ∃ key, ks[j] = key := ⟨_, rfl⟩
          rw [hkeyj] at hkj hksz
          have hkeyjH := Lib.hid hkeyj
          have hkszjH := Lib.hid hksz
          clear hkq hkey hlw hksz hkeyj
          by_cases hk7 : ((k : Int) = 7)
          · have hk7b : ((k : Int) != 7) = false := by rw [hk7]; rfl
            have hk7H := Lib.hid hk7
            clear hk7
            by_cases hku : Utf.ok key.data.toList = true
            · have huc := fun W => IsUTF8_yes (w := W) hkszjH.out hku
              have hucH := Lib.hid huc
              have hkuH' := Lib.hid hku
              clear huc hku
              go_wp2_with (go_at_call 21; refine (hucH.out _).mono ?_; rintro ev w2 ⟨rfl, nu, rfl⟩)
              obtain ⟨wo, hwo⟩ : ∃ wo : World, wr.drewN nu = wo := ⟨_, rfl⟩
              have hkp2 : Hid (Kp (fun _ => False) (w.alloc (.cells #[.int .i64 k, .int .i64 i, .float .f64 r, .string t, .slice ao l.length c, .slice (some ⟨b3, o3, none⟩) ks.length ck] 26)) wo) := Lib.hid (hwo ▸ hkp.out.drewN nu)
              have m5 : wo.cell? ⟨w.heap.size, 5, none⟩ = some (.slice (some ⟨b3, o3, none⟩) ks.length ck) := by rw [← hwo]; exact k5
              have hkqo : Hid (∀ q (h : q < ks.length), wo.cell? ⟨b3, o3 + q, none⟩ = some (.string ks[q])) := Lib.hid (fun q h => by rw [← hwo]; exact hkqH.out q h)
              rw [hwo]
              clear hwo k0 k4 k5 hkj hkqH
              go_loop [86] (fun i => ∃ q : Nat, q ≤ j ∧ i = .int .i64 q) (fun i => j - (intOf i).toNat)
              case atStart => exact ⟨0, Nat.zero_le _, rfl⟩
              case round =>
                obtain ⟨q, hq, rfl⟩ := hrel
                by_cases hqlt : q < j
                · have hcq := hkqo.out q (by omega)
                  obtain ⟨kq, hkqq⟩ : ∃ kq, ks[q]'(by omega) = kq := ⟨_, rfl⟩
                  rw [hkqq] at hcq
                  clear hkqq
                  go_wp2_with fail
                  · go_ret
                    exact ⟨false, rfl, (fun h => by cases h), ((Kp.refl _ w).alloc _).trans hkp2.out⟩
                  · go_round
                    case rel => exact ⟨q + 1, by omega, by go_num⟩
                    case measure => simp [intOf]; omega
                · have hqe : q = j := by omega
                  subst hqe
                  have hallu : ∀ i (h : i < q + 1) (h2 : i < ks.length), Utf.ok ks[i].data.toList = true := fun i h h2 => by
                    by_cases hij : i = q
                    · subst hij; rw [hkeyjH.out]; exact hkuH'.out
                    · exact hsu.out i (by omega) h2
                  have halluH := Lib.hid hallu
                  clear hallu
                  go_wp2_with fail
                  go_roundw
                  case rel => first | exact ⟨q + 1, by omega, by go_num, halluH, Lib.hid (fun _ => hk7H.out), hkp2⟩ | ((repeat apply Exists.intro); exact ⟨⟨q + 1, by omega, by go_num, halluH, Lib.hid (fun _ => hk7H.out), hkp2⟩, rfl⟩)
                  case measure => simp [intOf]; omega
            · have huc := fun W => IsUTF8_no (w := W) hkszjH.out hku
              have hucH := Lib.hid huc
              clear huc hku
              go_wp2_with (go_at_call 21; refine (hucH.out _).mono ?_; rintro ev w2 ⟨rfl, nu, rfl⟩)
              go_ret
              exact ⟨false, rfl, (fun h => by cases h), (((Kp.refl _ w).alloc _).trans hkp.out).drewN _⟩
          · have hk7b : ((k : Int) != 7) = true := by rw [bne_iff_ne]; exact hk7
            clear hk7
            go_wp2_with fail
            go_ret
            exact ⟨false, rfl, (fun h => by cases h), ((Kp.refl _ w).alloc _).trans hkp.out⟩
        · have hje : j = ks.length := by omega
          have hkuH : Hid (∀ i (h : i < ks.length), Utf.ok ks[i].data.toList = true) := Lib.hid (fun i h => hsu.out i (by omega) h)
          have hkkH : Hid (ks ≠ [] → (k : Int) = 7) := Lib.hid (fun h => hs7.out (by rw [hje]; exact List.length_pos_iff.2 h))
          clear hje k0 k5 hsu hs7
          go_wp2_with fail
          go_loopw [101] (fun cc wr => ∃ j : Nat, j ≤ l.length ∧ cc = .int .i64 j ∧ Hid (∀ i (h : i < j) (h2 : i < l.length), PlainV (d - 1) l[i]) ∧ Hid (0 < j → 6 ≤ (k : Int)) ∧ Hid (Kp (fun _ => False) (w.alloc (.cells #[.int .i64 k, .int .i64 i, .float .f64 r, .string t, .slice ao l.length c, .slice ako ks.length ck] 26)) wr)) (fun cc _ => l.length - (intOf cc).toNat)
          case atStart => exact ⟨0, Nat.zero_le _, rfl, Lib.hid (fun i h => by omega), Lib.hid (fun h => by omega), hkp⟩
          case round =>
            obtain ⟨j, hj, rfl, hsv, hsk, hkp⟩ := hrel
            have k0 : wr.cell? ⟨w.heap.size, 0, none⟩ = some (.int .i64 k) := by rw [kp_cell hkp.out (by simp)]; rw [World.cell?_alloc_new]; rfl
            have k4 : wr.cell? ⟨w.heap.size, 4, none⟩ = some (.slice ao l.length c) := by rw [kp_cell hkp.out (by simp)]; rw [World.cell?_alloc_new]; rfl
            by_cases hlt : j < l.length
            · skip
              by_cases hk6 : (6 ≤ (k : Int))
              · obtain ⟨b2, o2, rfl, hPL⟩ : ∃ b2 o2, ao = some ⟨b2, o2, none⟩ ∧ PList N w l b2 o2 := by
                  rcases hlH.out with h | h
                  · subst h; simp at hlt
                  · exact h
                have hlw : ∀ k, k < N → wr.heap[k]? = w.heap[k]? := fun k hk => (kp_low hkp.out (by simp; omega) k hk).trans (heap_alloc_old w _ k (by omega))
                obtain ⟨z, hz⟩ : ∃ z, l[j] = z := ⟨_, rfl⟩
                have hPz := hPL.at j hlt
                have hWz := hWLH.out.at j hlt
                rw [hz] at hPz hWz
                obtain ⟨ls2, kv2, hS2, hb2, hc2⟩ := hPz.cells
                have hcall := ihH.out z wr N ls2 kv2 (hS2.step (Nat.le_refl _) hlw) (by have := hkp.out.size; simp at this; omega) hWz
                obtain ⟨k', i', r', t', l', ks'⟩ := z
                have d0 : wr.cell? ⟨b2, o2 + j * 6, none⟩ = some (.int .i64 k') := by rw [show o2 + j * 6 = o2 + 6 * j + 0 by omega, World.cell?_of_block (hlw b2 hb2)]; exact hc2 0 (by decide)
                have d1 : wr.cell? ⟨b2, o2 + j * 6 + 1, none⟩ = some (.int .i64 i') := by rw [show o2 + j * 6 + 1 = o2 + 6 * j + 1 by omega, World.cell?_of_block (hlw b2 hb2)]; exact hc2 1 (by decide)
                have d2 : wr.cell? ⟨b2, o2 + j * 6 + 2, none⟩ = some (.float .f64 r') := by rw [show o2 + j * 6 + 2 = o2 + 6 * j + 2 by omega, World.cell?_of_block (hlw b2 hb2)]; exact hc2 2 (by decide)
                have d3 : wr.cell? ⟨b2, o2 + j * 6 + 3, none⟩ = some (.string t') := by rw [show o2 + j * 6 + 3 = o2 + 6 * j + 3 by omega, World.cell?_of_block (hlw b2 hb2)]; exact hc2 3 (by decide)
                have d4 : wr.cell? ⟨b2, o2 + j * 6 + 4, none⟩ = some ls2 := by rw [show o2 + j * 6 + 4 = o2 + 6 * j + 4 by omega, World.cell?_of_block (hlw b2 hb2)]; exact hc2 4 (by decide)
                have d5 : wr.cell? ⟨b2, o2 + j * 6 + 5, none⟩ = some kv2 := by rw [show o2 + j * 6 + 5 = o2 + 6 * j + 5 by omega, World.cell?_of_block (hlw b2 hb2)]; exact hc2 5 (by decide)
                obtain ⟨⟨ao2, cq, rfl, _⟩, ⟨ak2, cr, rfl, _⟩⟩ := hS2
                simp only [aggV] at hcall
                have hcallH := Lib.hid hcall
                have hzH := Lib.hid hz
                clear hcall hz hPz hWz hc2 hlw hPL
                go_wp2_with (go_at_call 15; rw [hd1H.out]; refine hcallH.out.mono ?_; rintro ev w2 ⟨bz, rfl, hbz, hk2⟩; have hbzH := Lib.hid hbz; have hk2H := Lib.hid hk2; clear hbz hk2)
                · go_ret
                  exact ⟨false, rfl, (fun h => by cases h), ((Kp.refl _ w).alloc _).trans (hkp.out.trans hk2H.out)⟩
                · have hbt : bz = true := by
                    have h9 : 6 ≤ k ∧ (!bz) = false := by assumption
                    simpa using h9.2
                  have hnew : PlainV (d - 1) l[j] := by rw [hzH.out]; exact hbzH.out hbt
                  have hall : ∀ i (h : i < j + 1) (h2 : i < l.length), PlainV (d - 1) l[i] := fun i h h2 => by
                    by_cases hij : i = j
                    · subst hij; exact hnew
                    · exact hsv.out i (by omega) h2
                  go_roundw
                  case rel => first | exact ⟨j + 1, by omega, by go_num, Lib.hid hall, Lib.hid (fun _ => hk6), Lib.hid (hkp.out.trans hk2H.out)⟩ | ((repeat apply Exists.intro); exact ⟨⟨j + 1, by omega, by go_num, Lib.hid hall, Lib.hid (fun _ => hk6), Lib.hid (hkp.out.trans hk2H.out)⟩, rfl⟩)
                  case measure => simp [intOf]; omega
              · go_wp2_with fail
                go_ret
                exact ⟨false, rfl, (fun h => by cases h), ((Kp.refl _ w).alloc _).trans hkp.out⟩
            · have hje : j = l.length := by omega
              have hall : PlainL (d - 1) l := PlainL.of fun i h => hsv.out i (by omega) h
              have hfin : PlainV d (.mk k i r t l ks) := by
                simp only [PlainV]
                refine ⟨hdH.out, by omega, (fun h => absurd h hk2H.out), hrH.out, huH.out, hklH.out, hkkH.out, hkuH.out, fun h => hsk.out ?_, hall⟩
                rw [hje]
                exact List.length_pos_iff.2 h
              have hfinH := Lib.hid hfin
              clear hfin hall hje
              go_wp2_with fail
              go_ret
              exact ⟨true, rfl, fun _ => hfinH.out, ((Kp.refl _ w).alloc _).trans hkp.out⟩

    · have hleb : (((ks.length : Nat) : Int) != ((l.length : Nat) : Int)) = true := by rw [bne_iff_ne]; omega
      have hleb2 : (ks.length != l.length) = true := by rw [bne_iff_ne]; exact hle
      have h7b : (k == 7) = true := by rw [beq_iff_eq]; exact h7
      clear h7 hle
      go_enter Tryz.func15, Tryz.ntmps15
      go_wp2_with (go_at_call 21; refine (hucH.out _).mono ?_; rintro ev w2 ⟨rfl, nu, rfl⟩)
      go_ret
      exact ⟨false, rfl, (fun h => by cases h), ((Kp.refl _ w).alloc _).drewN _⟩
  · have hklH : Hid (k = 7 → ks.length = l.length) := Lib.hid (fun h => absurd h h7)
    have h7b : (k == 7) = false := by rw [beq_eq_false_iff_ne]; exact h7
    clear h7
    go_enter Tryz.func15, Tryz.ntmps15
    go_wp2_with (go_at_call 21; refine (hucH.out _).mono ?_; rintro ev w2 ⟨rfl, nu, rfl⟩)
    go_loopw [72] (fun cc wr => ∃ j : Nat, j ≤ ks.length ∧ cc = .int .i64 j ∧ Hid (∀ i (h : i < j) (h2 : i < ks.length), Utf.ok ks[i].data.toList = true) ∧ Hid (0 < j → (k : Int) = 7) ∧ Hid (Kp (fun _ => False) (w.alloc (.cells #[.int .i64 k, .int .i64 i, .float .f64 r, .string t, .slice ao l.length c, .slice ako ks.length ck] 26)) wr)) (fun cc _ => ks.length - (intOf cc).toNat)
    case atStart => exact ⟨0, Nat.zero_le _, rfl, Lib.hid (fun i h => by omega), Lib.hid (fun h => by omega), Lib.hid ((Kp.refl _ _).drewN _)⟩
    case round =>
      obtain ⟨j, hj, rfl, hsu, hs7, hkp⟩ := hrel
      have k0 : wr.cell? ⟨w.heap.size, 0, none⟩ = some (.int .i64 k) := by rw [kp_cell hkp.out (by simp)]; rw [World.cell?_alloc_new]; rfl
      have k4 : wr.cell? ⟨w.heap.size, 4, none⟩ = some (.slice ao l.length c) := by rw [kp_cell hkp.out (by simp)]; rw [World.cell?_alloc_new]; rfl
      have k5 : wr.cell? ⟨w.heap.size, 5, none⟩ = some (.slice ako ks.length ck) := by rw [kp_cell hkp.out (by simp)]; rw [World.cell?_alloc_new]; rfl
      by_cases hlt : j < ks.length
      · obtain ⟨b3, o3, rfl, hb3, hkey⟩ : ∃ b3 o3, ako = some ⟨b3, o3, none⟩ ∧ b3 < N ∧ ∀ j (h : j < ks.length), w.cell? ⟨b3, o3 + j, none⟩ = some (.string ks[j]) := by
          rcases hkH.out with h | h
          · subst h; simp at hlt
          · exact h
        have hlw : ∀ k, k < N → wr.heap[k]? = w.heap[k]? := fun k hk => (kp_low hkp.out (by simp; omega) k hk).trans (heap_alloc_old w _ k (by omega))
        have hkq : ∀ q (h : q < ks.length), wr.cell? ⟨b3, o3 + q, none⟩ = some (.string ks[q]) := fun q h => (World.cell?_of_block (hlw b3 hb3)).trans (hkey q h)
        have hkj := hkq j hlt
        have hkqH := Lib.hid hkq
        have hksz := hkszH.out j hlt
        obtain ⟨key, hkeyj⟩ : ∃ key, ks[j] = key := ⟨_, rfl⟩
        rw [hkeyj] at hkj hksz
        have hkeyjH := Lib.hid hkeyj
        have hkszjH := Lib.hid hksz
        clear hkq hkey hlw hksz hkeyj
        by_cases hk7 : ((k : Int) = 7)
        · have hk7b : ((k : Int) != 7) = false := by rw [hk7]; rfl
          have hk7H := Lib.hid hk7
          clear hk7
          by_cases hku : Utf.ok key.data.toList = true
          · have huc := fun W => IsUTF8_yes (w := W) hkszjH.out hku
            have hucH := Lib.hid huc
            have hkuH' := Lib.hid hku
            clear huc hku
            go_wp2_with (go_at_call 21; refine (hucH.out _).mono ?_; rintro ev w2 ⟨rfl, nu, rfl⟩)
            obtain ⟨wo, hwo⟩ : ∃ wo : World, wr.drewN nu = wo := ⟨_, rfl⟩
            have hkp2 : Hid (Kp (fun _ => False) (w.alloc (.cells #[.int .i64 k, .int .i64 i, .float .f64 r, .string t, .slice ao l.length c, .slice (some ⟨b3, o3, none⟩) ks.length ck] 26)) wo) := Lib.hid (hwo ▸ hkp.out.drewN nu)
            have m5 : wo.cell? ⟨w.heap.size, 5, none⟩ = some (.slice (some ⟨b3, o3, none⟩) ks.length ck) := by rw [← hwo]; exact k5
            have hkqo : Hid (∀ q (h : q < ks.length), wo.cell? ⟨b3, o3 + q, none⟩ = some (.string ks[q])) := Lib.hid (fun q h => by rw [← hwo]; exact hkqH.out q h)
            rw [hwo]
            clear hwo k0 k4 k5 hkj hkqH
            go_loop [86] (fun i => ∃ q : Nat, q ≤ j ∧ i = .int .i64 q) (fun i => j - (intOf i).toNat)
            case atStart => exact ⟨0, Nat.zero_le _, rfl⟩
            case round =>
              obtain ⟨q, hq, rfl⟩ := hrel
              by_cases hqlt : q < j
              · have hcq := hkqo.out q (by omega)
                obtain ⟨kq, hkqq⟩ : ∃ kq, ks[q]'(by omega) = kq := ⟨_, rfl⟩
                rw [hkqq] at hcq
                clear hkqq
                go_wp2_with fail
                · go_ret
                  exact ⟨false, rfl, (fun h => by cases h), ((Kp.refl _ w).alloc _).trans hkp2.out⟩
                · go_round
                  case rel => exact ⟨q + 1, by omega, by go_num⟩
                  case measure => simp [intOf]; omega
              · have hqe : q = j := by omega
                subst hqe
                have hallu : ∀ i (h : i < q + 1) (h2 : i < ks.length), Utf.ok ks[i].data.toList = true := fun i h h2 => by
                  by_cases hij : i = q
                  · subst hij; rw [hkeyjH.out]; exact hkuH'.out
                  · exact hsu.out i (by omega) h2
                have halluH := Lib.hid hallu
                clear hallu
                go_wp2_with fail
                go_roundw
                case rel => first | exact ⟨q + 1, by omega, by go_num, halluH, Lib.hid (fun _ => hk7H.out), hkp2⟩ | ((repeat apply Exists.intro); exact ⟨⟨q + 1, by omega, by go_num, halluH, Lib.hid (fun _ => hk7H.out), hkp2⟩, rfl⟩)
                case measure => simp [intOf]; omega
          · have huc := fun W => IsUTF8_no (w := W) hkszjH.out hku
            have hucH := Lib.hid huc
            clear huc hku
            go_wp2_with (go_at_call 21; refine (hucH.out _).mono ?_; rintro ev w2 ⟨rfl, nu, rfl⟩)
            go_ret
            exact ⟨false, rfl, (fun h => by cases h), (((Kp.refl _ w).alloc _).trans hkp.out).drewN _⟩
        · have hk7b : ((k : Int) != 7) = true := by rw [bne_iff_ne]; exact hk7
          clear hk7
          go_wp2_with fail
          go_ret
          exact ⟨false, rfl, (fun h => by cases h), ((Kp.refl _ w).alloc _).trans hkp.out⟩
      · have hje : j = ks.length := by omega
        have hkuH : Hid (∀ i (h : i < ks.length), Utf.ok ks[i].data.toList = true) := Lib.hid (fun i h => hsu.out i (by omega) h)
        have hkkH : Hid (ks ≠ [] → (k : Int) = 7) := Lib.hid (fun h => hs7.out (by rw [hje]; exact List.length_pos_iff.2 h))
        clear hje k0 k5 hsu hs7
        go_wp2_with fail
        go_loopw [101] (fun cc wr => ∃ j : Nat, j ≤ l.length ∧ cc = .int .i64 j ∧ Hid (∀ i (h : i < j) (h2 : i < l.length), PlainV (d - 1) l[i]) ∧ Hid (0 < j → 6 ≤ (k : Int)) ∧ Hid (Kp (fun _ => False) (w.alloc (.cells #[.int .i64 k, .int .i64 i, .float .f64 r, .string t, .slice ao l.length c, .slice ako ks.length ck] 26)) wr)) (fun cc _ => l.length - (intOf cc).toNat)
        case atStart => exact ⟨0, Nat.zero_le _, rfl, Lib.hid (fun i h => by omega), Lib.hid (fun h => by omega), hkp⟩
        case round =>
          obtain ⟨j, hj, rfl, hsv, hsk, hkp⟩ := hrel
          have k0 : wr.cell? ⟨w.heap.size, 0, none⟩ = some (.int .i64 k) := by rw [kp_cell hkp.out (by simp)]; rw [World.cell?_alloc_new]; rfl
          have k4 : wr.cell? ⟨w.heap.size, 4, none⟩ = some (.slice ao l.length c) := by rw [kp_cell hkp.out (by simp)]; rw [World.cell?_alloc_new]; rfl
          by_cases hlt : j < l.length
          · skip
            by_cases hk6 : (6 ≤ (k : Int))
            · obtain ⟨b2, o2, rfl, hPL⟩ : ∃ b2 o2, ao = some ⟨b2, o2, none⟩ ∧ PList N w l b2 o2 := by
                rcases hlH.out with h | h
                · subst h; simp at hlt
                · exact h
              have hlw : ∀ k, k < N → wr.heap[k]? = w.heap[k]? := fun k hk => (kp_low hkp.out (by simp; omega) k hk).trans (heap_alloc_old w _ k (by omega))
              obtain ⟨z, hz⟩ : ∃ z, l[j] = z := ⟨_, rfl⟩
              have hPz := hPL.at j hlt
              have hWz := hWLH.out.at j hlt
              rw [hz] at hPz hWz
              obtain ⟨ls2, kv2, hS2, hb2, hc2⟩ := hPz.cells
              have hcall := ihH.out z wr N ls2 kv2 (hS2.step (Nat.le_refl _) hlw) (by have := hkp.out.size; simp at this; omega) hWz
              obtain ⟨k', i', r', t', l', ks'⟩ := z
              have d0 : wr.cell? ⟨b2, o2 + j * 6, none⟩ = some (.int .i64 k') := by rw [show o2 + j * 6 = o2 + 6 * j + 0 by omega, World.cell?_of_block (hlw b2 hb2)]; exact hc2 0 (by decide)
              have d1 : wr.cell? ⟨b2, o2 + j * 6 + 1, none⟩ = some (.int .i64 i') := by rw [show o2 + j * 6 + 1 = o2 + 6 * j + 1 by omega, World.cell?_of_block (hlw b2 hb2)]; exact hc2 1 (by decide)
              have d2 : wr.cell? ⟨b2, o2 + j * 6 + 2, none⟩ = some (.float .f64 r') := by rw [show o2 + j * 6 + 2 = o2 + 6 * j + 2 by omega, World.cell?_of_block (hlw b2 hb2)]; exact hc2 2 (by decide)
              have d3 : wr.cell? ⟨b2, o2 + j * 6 + 3, none⟩ = some (.string t') := by rw [show o2 + j * 6 + 3 = o2 + 6 * j + 3 by omega, World.cell?_of_block (hlw b2 hb2)]; exact hc2 3 (by decide)
              have d4 : wr.cell? ⟨b2, o2 + j * 6 + 4, none⟩ = some ls2 := by rw [show o2 + j * 6 + 4 = o2 + 6 * j + 4 by omega, World.cell?_of_block (hlw b2 hb2)]; exact hc2 4 (by decide)
              have d5 : wr.cell? ⟨b2, o2 + j * 6 + 5, none⟩ = some kv2 := by rw [show o2 + j * 6 + 5 = o2 + 6 * j + 5 by omega, World.cell?_of_block (hlw b2 hb2)]; exact hc2 5 (by decide)
              obtain ⟨⟨ao2, cq, rfl, _⟩, ⟨ak2, cr, rfl, _⟩⟩ := hS2
              simp only [aggV] at hcall
              have hcallH := Lib.hid hcall
              have hzH := Lib.hid hz
              clear hcall hz hPz hWz hc2 hlw hPL
              go_wp2_with (go_at_call 15; rw [hd1H.out]; refine hcallH.out.mono ?_; rintro ev w2 ⟨bz, rfl, hbz, hk2⟩; have hbzH := Lib.hid hbz; have hk2H := Lib.hid hk2; clear hbz hk2)
              · go_ret
                exact ⟨false, rfl, (fun h => by cases h), ((Kp.refl _ w).alloc _).trans (hkp.out.trans hk2H.out)⟩
              · have hbt : bz = true := by
                  have h9 : 6 ≤ k ∧ (!bz) = false := by assumption
                  simpa using h9.2
                have hnew : PlainV (d - 1) l[j] := by rw [hzH.out]; exact hbzH.out hbt
                have hall : ∀ i (h : i < j + 1) (h2 : i < l.length), PlainV (d - 1) l[i] := fun i h h2 => by
                  by_cases hij : i = j
                  · subst hij; exact hnew
                  · exact hsv.out i (by omega) h2
                go_roundw
                case rel => first | exact ⟨j + 1, by omega, by go_num, Lib.hid hall, Lib.hid (fun _ => hk6), Lib.hid (hkp.out.trans hk2H.out)⟩ | ((repeat apply Exists.intro); exact ⟨⟨j + 1, by omega, by go_num, Lib.hid hall, Lib.hid (fun _ => hk6), Lib.hid (hkp.out.trans hk2H.out)⟩, rfl⟩)
                case measure => simp [intOf]; omega
            · go_wp2_with fail
              go_ret
              exact ⟨false, rfl, (fun h => by cases h), ((Kp.refl _ w).alloc _).trans hkp.out⟩
          · have hje : j = l.length := by omega
            have hall : PlainL (d - 1) l := PlainL.of fun i h => hsv.out i (by omega) h
            have hfin : PlainV d (.mk k i r t l ks) := by
              simp only [PlainV]
              refine ⟨hdH.out, by omega, (fun h => absurd h hk2H.out), hrH.out, huH.out, hklH.out, hkkH.out, hkuH.out, fun h => hsk.out ?_, hall⟩
              rw [hje]
              exact List.length_pos_iff.2 h
            have hfinH := Lib.hid hfin
            clear hfin hall hje
            go_wp2_with fail
            go_ret
            exact ⟨true, rfl, fun _ => hfinH.out, ((Kp.refl _ w).alloc _).trans hkp.out⟩


set_option maxHeartbeats 12800000 in
set_option maxRecDepth 100000 in
theorem IsPlain_b {d N : Nat} {w : World} {r c ck : Nat} {t : ByteArray} {l : List Val} {ks : List ByteArray} {ao ako : Option Addr} 
    (hd : 0 < d) (hd12 : d ≤ 12) (hkr : 1 ≤ (2 : Int) ∧ (2 : Int) ≤ 7) (hr : r % 2 ^ 63 < 2047 * 2 ^ 52) (hr64 : r < 2 ^ 64) (hu : Utf.ok t.data.toList = true) (hts : t.size ≤ lim) (hll : l.length ≤ lim) (hkls : ks.length ≤ lim) (hksz : ∀ j (h : j < ks.length), ks[j].size ≤ lim)
    (hl : l = [] ∨ ∃ b2 o2, ao = some ⟨b2, o2, none⟩ ∧ PList N w l b2 o2) (hk : ks = [] ∨ ∃ b2 o2, ako = some ⟨b2, o2, none⟩ ∧ b2 < N ∧ ∀ j (h : j < ks.length), w.cell? ⟨b2, o2 + j, none⟩ = some (.string ks[j])) (hN : N ≤ w.heap.size) (hWL : WfL l)
    (ih : ∀ (v : Val) (w : World) (N : Nat) (ls kv : Value), Subs N w v ls kv → N ≤ w.heap.size → WfV v → Calls Tryz.prog 15 #[.agg (aggV v ls kv), .int .i64 ((d - 1 : Nat) : Int)] w (Says (PlainV (d - 1) v) w)) :
    Calls Tryz.prog 15 #[.agg #[.int .i64 2, .int .i64 0, .float .f64 r, .string t, .slice ao l.length c, .slice ako ks.length ck], .int .i64 d] w (Says (PlainV d (.mk 2 0 r t l ks)) w) := by
  obtain ⟨x, neg, hx, hrx⟩ := word_split hr64 hr
  have hrx' : r = x ∨ r = x + 2 ^ 63 := by rw [hrx]; cases neg <;> simp [signW]
  have hrr : (FloatKind.f64.format.order r r != some .eq) = false := (rr_fin hx hrx').1
  have hsub : ∀ w, (binOp .sub 22 (.float .f64 r) (.float .f64 r)).run Tryz.prog w = .ok (.float .f64 0) w := fun w => run_float_arith w .sub _ .f64 _ _ _ (rr_fin hx hrx').2
  have hz := zero_eq
  have hd0 : ((d : Int) == 0) = false := by rw [beq_eq_false_iff_ne]; omega
  have huc := fun W => IsUTF8_yes (w := W) hts hu
  have hucH := Lib.hid huc
  have hdH := Lib.hid hd
  have hrH := Lib.hid hr
  have huH := Lib.hid hu
  have hlH := Lib.hid hl
  have hkH := Lib.hid hk
  have hWLH := Lib.hid hWL
  have ihH := Lib.hid ih
  have hkszH := Lib.hid hksz
  have hd1H : Hid ((d : Int) - 1 = ((d - 1 : Nat) : Int)) := Lib.hid (by omega)
  have hll' : l.length ≤ 1099511627776 := hll
  have hkl' : ks.length ≤ 1099511627776 := hkls
  obtain ⟨hk1, hk7'⟩ := hkr
  clear hrx hrx' hx hu hr hr64 hl hk hWL ih hksz huc hts hll hkls
  have hklH : Hid ((2 : Int) = 7 → ks.length = l.length) := Lib.hid (fun h => by omega)
  go_enter Tryz.func15, Tryz.ntmps15
  go_wp2_with (go_at_call 21; refine (hucH.out _).mono ?_; rintro ev w2 ⟨rfl, nu, rfl⟩)
  go_loopw [72] (fun cc wr => ∃ j : Nat, j ≤ ks.length ∧ cc = .int .i64 j ∧ Hid (∀ i (h : i < j) (h2 : i < ks.length), Utf.ok ks[i].data.toList = true) ∧ Hid (0 < j → (2 : Int) = 7) ∧ Hid (Kp (fun _ => False) (w.alloc (.cells #[.int .i64 2, .int .i64 0, .float .f64 r, .string t, .slice ao l.length c, .slice ako ks.length ck] 26)) wr)) (fun cc _ => ks.length - (intOf cc).toNat)
  case atStart => exact ⟨0, Nat.zero_le _, rfl, Lib.hid (fun i h => by omega), Lib.hid (fun h => by omega), Lib.hid ((Kp.refl _ _).drewN _)⟩
  case round =>
    obtain ⟨j, hj, rfl, hsu, hs7, hkp⟩ := hrel
    have k0 : wr.cell? ⟨w.heap.size, 0, none⟩ = some (.int .i64 2) := by rw [kp_cell hkp.out (by simp)]; rw [World.cell?_alloc_new]; rfl
    have k4 : wr.cell? ⟨w.heap.size, 4, none⟩ = some (.slice ao l.length c) := by rw [kp_cell hkp.out (by simp)]; rw [World.cell?_alloc_new]; rfl
    have k5 : wr.cell? ⟨w.heap.size, 5, none⟩ = some (.slice ako ks.length ck) := by rw [kp_cell hkp.out (by simp)]; rw [World.cell?_alloc_new]; rfl
    by_cases hlt : j < ks.length
    · obtain ⟨b3, o3, rfl, hb3, hkey⟩ : ∃ b3 o3, ako = some ⟨b3, o3, none⟩ ∧ b3 < N ∧ ∀ j (h : j < ks.length), w.cell? ⟨b3, o3 + j, none⟩ = some (.string ks[j]) := by
        rcases hkH.out with h | h
        · subst h; simp at hlt
        · exact h
      have hlw : ∀ k, k < N → wr.heap[k]? = w.heap[k]? := fun k hk => (kp_low hkp.out (by simp; omega) k hk).trans (heap_alloc_old w _ k (by omega))
      have hkq : ∀ q (h : q < ks.length), wr.cell? ⟨b3, o3 + q, none⟩ = some (.string ks[q]) := fun q h => (World.cell?_of_block (hlw b3 hb3)).trans (hkey q h)
      have hkj := hkq j hlt
      have hkqH := Lib.hid hkq
      have hksz := hkszH.out j hlt
      obtain ⟨key, hkeyj⟩ : ∃ key, ks[j] = key := ⟨_, rfl⟩
      rw [hkeyj] at hkj hksz
      have hkeyjH := Lib.hid hkeyj
      have hkszjH := Lib.hid hksz
      clear hkq hkey hlw hksz hkeyj
      have hk7 : ¬ ((2 : Int) = 7) := by decide
      have hk7b : ((2 : Int) != 7) = true := by rw [bne_iff_ne]; exact hk7
      clear hk7
      go_wp2_with fail
      go_ret
      exact ⟨false, rfl, (fun h => by cases h), ((Kp.refl _ w).alloc _).trans hkp.out⟩
    · have hje : j = ks.length := by omega
      have hkuH : Hid (∀ i (h : i < ks.length), Utf.ok ks[i].data.toList = true) := Lib.hid (fun i h => hsu.out i (by omega) h)
      have hkkH : Hid (ks ≠ [] → (2 : Int) = 7) := Lib.hid (fun h => hs7.out (by rw [hje]; exact List.length_pos_iff.2 h))
      clear hje k0 k5 hsu hs7
      go_wp2_with fail
      go_loopw [101] (fun cc wr => ∃ j : Nat, j ≤ l.length ∧ cc = .int .i64 j ∧ Hid (∀ i (h : i < j) (h2 : i < l.length), PlainV (d - 1) l[i]) ∧ Hid (0 < j → 6 ≤ (2 : Int)) ∧ Hid (Kp (fun _ => False) (w.alloc (.cells #[.int .i64 2, .int .i64 0, .float .f64 r, .string t, .slice ao l.length c, .slice ako ks.length ck] 26)) wr)) (fun cc _ => l.length - (intOf cc).toNat)
      case atStart => exact ⟨0, Nat.zero_le _, rfl, Lib.hid (fun i h => by omega), Lib.hid (fun h => by omega), hkp⟩
      case round =>
        obtain ⟨j, hj, rfl, hsv, hsk, hkp⟩ := hrel
        have k0 : wr.cell? ⟨w.heap.size, 0, none⟩ = some (.int .i64 2) := by rw [kp_cell hkp.out (by simp)]; rw [World.cell?_alloc_new]; rfl
        have k4 : wr.cell? ⟨w.heap.size, 4, none⟩ = some (.slice ao l.length c) := by rw [kp_cell hkp.out (by simp)]; rw [World.cell?_alloc_new]; rfl
        by_cases hlt : j < l.length
        · skip
          have hk6 : ¬ (6 ≤ (2 : Int)) := by decide
          go_wp2_with fail
          go_ret
          exact ⟨false, rfl, (fun h => by cases h), ((Kp.refl _ w).alloc _).trans hkp.out⟩
        · have hje : j = l.length := by omega
          have hall : PlainL (d - 1) l := PlainL.of fun i h => hsv.out i (by omega) h
          have hfin : PlainV d (.mk 2 0 r t l ks) := by
            simp only [PlainV]
            refine ⟨hdH.out, by omega, (by first | trivial | exact fun _ => trivial | exact fun _ => .inl rfl), hrH.out, huH.out, hklH.out, hkkH.out, hkuH.out, fun h => hsk.out ?_, hall⟩
            rw [hje]
            exact List.length_pos_iff.2 h
          have hfinH := Lib.hid hfin
          clear hfin hall hje
          go_wp2_with fail
          go_ret
          exact ⟨true, rfl, fun _ => hfinH.out, ((Kp.refl _ w).alloc _).trans hkp.out⟩


set_option maxHeartbeats 12800000 in
set_option maxRecDepth 100000 in
theorem IsPlain_c {d N : Nat} {w : World} {r c ck : Nat} {t : ByteArray} {l : List Val} {ks : List ByteArray} {ao ako : Option Addr} 
    (hd : 0 < d) (hd12 : d ≤ 12) (hkr : 1 ≤ (2 : Int) ∧ (2 : Int) ≤ 7) (hr : r % 2 ^ 63 < 2047 * 2 ^ 52) (hr64 : r < 2 ^ 64) (hu : Utf.ok t.data.toList = true) (hts : t.size ≤ lim) (hll : l.length ≤ lim) (hkls : ks.length ≤ lim) (hksz : ∀ j (h : j < ks.length), ks[j].size ≤ lim)
    (hl : l = [] ∨ ∃ b2 o2, ao = some ⟨b2, o2, none⟩ ∧ PList N w l b2 o2) (hk : ks = [] ∨ ∃ b2 o2, ako = some ⟨b2, o2, none⟩ ∧ b2 < N ∧ ∀ j (h : j < ks.length), w.cell? ⟨b2, o2 + j, none⟩ = some (.string ks[j])) (hN : N ≤ w.heap.size) (hWL : WfL l)
    (ih : ∀ (v : Val) (w : World) (N : Nat) (ls kv : Value), Subs N w v ls kv → N ≤ w.heap.size → WfV v → Calls Tryz.prog 15 #[.agg (aggV v ls kv), .int .i64 ((d - 1 : Nat) : Int)] w (Says (PlainV (d - 1) v) w)) :
    Calls Tryz.prog 15 #[.agg #[.int .i64 2, .int .i64 1, .float .f64 r, .string t, .slice ao l.length c, .slice ako ks.length ck], .int .i64 d] w (Says (PlainV d (.mk 2 1 r t l ks)) w) := by
  obtain ⟨x, neg, hx, hrx⟩ := word_split hr64 hr
  have hrx' : r = x ∨ r = x + 2 ^ 63 := by rw [hrx]; cases neg <;> simp [signW]
  have hrr : (FloatKind.f64.format.order r r != some .eq) = false := (rr_fin hx hrx').1
  have hsub : ∀ w, (binOp .sub 22 (.float .f64 r) (.float .f64 r)).run Tryz.prog w = .ok (.float .f64 0) w := fun w => run_float_arith w .sub _ .f64 _ _ _ (rr_fin hx hrx').2
  have hz := zero_eq
  have hd0 : ((d : Int) == 0) = false := by rw [beq_eq_false_iff_ne]; omega
  have huc := fun W => IsUTF8_yes (w := W) hts hu
  have hucH := Lib.hid huc
  have hdH := Lib.hid hd
  have hrH := Lib.hid hr
  have huH := Lib.hid hu
  have hlH := Lib.hid hl
  have hkH := Lib.hid hk
  have hWLH := Lib.hid hWL
  have ihH := Lib.hid ih
  have hkszH := Lib.hid hksz
  have hd1H : Hid ((d : Int) - 1 = ((d - 1 : Nat) : Int)) := Lib.hid (by omega)
  have hll' : l.length ≤ 1099511627776 := hll
  have hkl' : ks.length ≤ 1099511627776 := hkls
  obtain ⟨hk1, hk7'⟩ := hkr
  clear hrx hrx' hx hu hr hr64 hl hk hWL ih hksz huc hts hll hkls
  have hklH : Hid ((2 : Int) = 7 → ks.length = l.length) := Lib.hid (fun h => by omega)
  go_enter Tryz.func15, Tryz.ntmps15
  go_wp2_with (go_at_call 21; refine (hucH.out _).mono ?_; rintro ev w2 ⟨rfl, nu, rfl⟩)
  go_loopw [72] (fun cc wr => ∃ j : Nat, j ≤ ks.length ∧ cc = .int .i64 j ∧ Hid (∀ i (h : i < j) (h2 : i < ks.length), Utf.ok ks[i].data.toList = true) ∧ Hid (0 < j → (2 : Int) = 7) ∧ Hid (Kp (fun _ => False) (w.alloc (.cells #[.int .i64 2, .int .i64 1, .float .f64 r, .string t, .slice ao l.length c, .slice ako ks.length ck] 26)) wr)) (fun cc _ => ks.length - (intOf cc).toNat)
  case atStart => exact ⟨0, Nat.zero_le _, rfl, Lib.hid (fun i h => by omega), Lib.hid (fun h => by omega), Lib.hid ((Kp.refl _ _).drewN _)⟩
  case round =>
    obtain ⟨j, hj, rfl, hsu, hs7, hkp⟩ := hrel
    have k0 : wr.cell? ⟨w.heap.size, 0, none⟩ = some (.int .i64 2) := by rw [kp_cell hkp.out (by simp)]; rw [World.cell?_alloc_new]; rfl
    have k4 : wr.cell? ⟨w.heap.size, 4, none⟩ = some (.slice ao l.length c) := by rw [kp_cell hkp.out (by simp)]; rw [World.cell?_alloc_new]; rfl
    have k5 : wr.cell? ⟨w.heap.size, 5, none⟩ = some (.slice ako ks.length ck) := by rw [kp_cell hkp.out (by simp)]; rw [World.cell?_alloc_new]; rfl
    by_cases hlt : j < ks.length
    · obtain ⟨b3, o3, rfl, hb3, hkey⟩ : ∃ b3 o3, ako = some ⟨b3, o3, none⟩ ∧ b3 < N ∧ ∀ j (h : j < ks.length), w.cell? ⟨b3, o3 + j, none⟩ = some (.string ks[j]) := by
        rcases hkH.out with h | h
        · subst h; simp at hlt
        · exact h
      have hlw : ∀ k, k < N → wr.heap[k]? = w.heap[k]? := fun k hk => (kp_low hkp.out (by simp; omega) k hk).trans (heap_alloc_old w _ k (by omega))
      have hkq : ∀ q (h : q < ks.length), wr.cell? ⟨b3, o3 + q, none⟩ = some (.string ks[q]) := fun q h => (World.cell?_of_block (hlw b3 hb3)).trans (hkey q h)
      have hkj := hkq j hlt
      have hkqH := Lib.hid hkq
      have hksz := hkszH.out j hlt
      obtain ⟨key, hkeyj⟩ : ∃ key, ks[j] = key := ⟨_, rfl⟩
      rw [hkeyj] at hkj hksz
      have hkeyjH := Lib.hid hkeyj
      have hkszjH := Lib.hid hksz
      clear hkq hkey hlw hksz hkeyj
      have hk7 : ¬ ((2 : Int) = 7) := by decide
      have hk7b : ((2 : Int) != 7) = true := by rw [bne_iff_ne]; exact hk7
      clear hk7
      go_wp2_with fail
      go_ret
      exact ⟨false, rfl, (fun h => by cases h), ((Kp.refl _ w).alloc _).trans hkp.out⟩
    · have hje : j = ks.length := by omega
      have hkuH : Hid (∀ i (h : i < ks.length), Utf.ok ks[i].data.toList = true) := Lib.hid (fun i h => hsu.out i (by omega) h)
      have hkkH : Hid (ks ≠ [] → (2 : Int) = 7) := Lib.hid (fun h => hs7.out (by rw [hje]; exact List.length_pos_iff.2 h))
      clear hje k0 k5 hsu hs7
      go_wp2_with fail
      go_loopw [101] (fun cc wr => ∃ j : Nat, j ≤ l.length ∧ cc = .int .i64 j ∧ Hid (∀ i (h : i < j) (h2 : i < l.length), PlainV (d - 1) l[i]) ∧ Hid (0 < j → 6 ≤ (2 : Int)) ∧ Hid (Kp (fun _ => False) (w.alloc (.cells #[.int .i64 2, .int .i64 1, .float .f64 r, .string t, .slice ao l.length c, .slice ako ks.length ck] 26)) wr)) (fun cc _ => l.length - (intOf cc).toNat)
      case atStart => exact ⟨0, Nat.zero_le _, rfl, Lib.hid (fun i h => by omega), Lib.hid (fun h => by omega), hkp⟩
      case round =>
        obtain ⟨j, hj, rfl, hsv, hsk, hkp⟩ := hrel
        have k0 : wr.cell? ⟨w.heap.size, 0, none⟩ = some (.int .i64 2) := by rw [kp_cell hkp.out (by simp)]; rw [World.cell?_alloc_new]; rfl
        have k4 : wr.cell? ⟨w.heap.size, 4, none⟩ = some (.slice ao l.length c) := by rw [kp_cell hkp.out (by simp)]; rw [World.cell?_alloc_new]; rfl
        by_cases hlt : j < l.length
        · skip
          have hk6 : ¬ (6 ≤ (2 : Int)) := by decide
          go_wp2_with fail
          go_ret
          exact ⟨false, rfl, (fun h => by cases h), ((Kp.refl _ w).alloc _).trans hkp.out⟩
        · have hje : j = l.length := by omega
          have hall : PlainL (d - 1) l := PlainL.of fun i h => hsv.out i (by omega) h
          have hfin : PlainV d (.mk 2 1 r t l ks) := by
            simp only [PlainV]
            refine ⟨hdH.out, by omega, (by first | trivial | exact fun _ => trivial | exact fun _ => .inr rfl), hrH.out, huH.out, hklH.out, hkkH.out, hkuH.out, fun h => hsk.out ?_, hall⟩
            rw [hje]
            exact List.length_pos_iff.2 h
          have hfinH := Lib.hid hfin
          clear hfin hall hje
          go_wp2_with fail
          go_ret
          exact ⟨true, rfl, fun _ => hfinH.out, ((Kp.refl _ w).alloc _).trans hkp.out⟩

end Go.Proofs.YtokmkkkanphihaaGreatRDoor

/- spec.IsPlain at every value (written by genIP.py). -/
namespace Go.Proofs.YtokmkkkanphihaaGreatRDoor
open Go.RowKit Go.Sort

set_option maxHeartbeats 3200000 in
set_option maxRecDepth 100000 in
theorem IsPlainNo_zero {P : Prop} {w : World} {k : Int} {i : Int} {r : Nat} {t : ByteArray} {nl c nk ck : Nat} {ao ako : Option Addr}  :
    Calls Tryz.prog 15 #[.agg #[.int .i64 k, .int .i64 i, .float .f64 r, .string t, .slice ao nl c, .slice ako nk ck], .int .i64 0] w (Says P w) := by
  go_enter Tryz.func15, Tryz.ntmps15
  go_wp2_with fail
  go_ret
  exact ⟨false, rfl, (fun h => by cases h), (Kp.refl _ w).alloc _⟩

set_option maxHeartbeats 3200000 in
set_option maxRecDepth 100000 in
theorem IsPlainNo_low {P : Prop} {w : World} {d : Nat} {k : Int} {i : Int} {r : Nat} {t : ByteArray} {nl c nk ck : Nat} {ao ako : Option Addr} (hd : 0 < d) (hd12 : d ≤ 12) (hk : k < 1) :
    Calls Tryz.prog 15 #[.agg #[.int .i64 k, .int .i64 i, .float .f64 r, .string t, .slice ao nl c, .slice ako nk ck], .int .i64 d] w (Says P w) := by
  have hd0 : ((d : Int) == 0) = false := by rw [beq_eq_false_iff_ne]; omega
  clear hd
  go_enter Tryz.func15, Tryz.ntmps15
  go_wp2_with fail
  go_ret
  exact ⟨false, rfl, (fun h => by cases h), (Kp.refl _ w).alloc _⟩

set_option maxHeartbeats 3200000 in
set_option maxRecDepth 100000 in
theorem IsPlainNo_high {P : Prop} {w : World} {d : Nat} {k : Int} {i : Int} {r : Nat} {t : ByteArray} {nl c nk ck : Nat} {ao ako : Option Addr} (hd : 0 < d) (hd12 : d ≤ 12) (hk1 : 1 ≤ k) (hk : 7 < k) :
    Calls Tryz.prog 15 #[.agg #[.int .i64 k, .int .i64 i, .float .f64 r, .string t, .slice ao nl c, .slice ako nk ck], .int .i64 d] w (Says P w) := by
  have hd0 : ((d : Int) == 0) = false := by rw [beq_eq_false_iff_ne]; omega
  clear hd
  go_enter Tryz.func15, Tryz.ntmps15
  go_wp2_with fail
  go_ret
  exact ⟨false, rfl, (fun h => by cases h), (Kp.refl _ w).alloc _⟩

set_option maxHeartbeats 3200000 in
set_option maxRecDepth 100000 in
theorem IsPlainNo_truth {P : Prop} {w : World} {d : Nat} {i : Int} {r : Nat} {t : ByteArray} {nl c nk ck : Nat} {ao ako : Option Addr} (hd : 0 < d) (hd12 : d ≤ 12) (h0 : ¬ i = 0) (h1 : ¬ i = 1) :
    Calls Tryz.prog 15 #[.agg #[.int .i64 2, .int .i64 i, .float .f64 r, .string t, .slice ao nl c, .slice ako nk ck], .int .i64 d] w (Says P w) := by
  have hd0 : ((d : Int) == 0) = false := by rw [beq_eq_false_iff_ne]; omega
  clear hd
  have e0 : (i != 0) = true := by rw [bne_iff_ne]; exact h0
  have e1 : (i != 1) = true := by rw [bne_iff_ne]; exact h1
  clear h0 h1
  go_enter Tryz.func15, Tryz.ntmps15
  go_wp2_with fail
  go_ret
  exact ⟨false, rfl, (fun h => by cases h), (Kp.refl _ w).alloc _⟩

set_option maxHeartbeats 3200000 in
set_option maxRecDepth 100000 in
theorem IsPlainNo_nan_a {P : Prop} {w : World} {d : Nat} {k : Int} {i : Int} {r : Nat} {t : ByteArray} {nl c nk ck : Nat} {ao ako : Option Addr} (hd : 0 < d) (hd12 : d ≤ 12) (hk1 : 1 ≤ k) (hk7 : k ≤ 7) (hk2 : ¬ k = 2) (hr : 2047 * 2 ^ 52 < r % 2 ^ 63) :
    Calls Tryz.prog 15 #[.agg #[.int .i64 k, .int .i64 i, .float .f64 r, .string t, .slice ao nl c, .slice ako nk ck], .int .i64 d] w (Says P w) := by
  have hd0 : ((d : Int) == 0) = false := by rw [beq_eq_false_iff_ne]; omega
  clear hd
  have hk2b : (k == 2) = false := by rw [beq_eq_false_iff_ne]; exact hk2
  clear hk2
  have hrr : (FloatKind.f64.format.order r r != some .eq) = true := rr_nan hr
  clear hr
  go_enter Tryz.func15, Tryz.ntmps15
  go_wp2_with fail
  go_ret
  exact ⟨false, rfl, (fun h => by cases h), (Kp.refl _ w).alloc _⟩

set_option maxHeartbeats 3200000 in
set_option maxRecDepth 100000 in
theorem IsPlainNo_inf_a {P : Prop} {w : World} {d : Nat} {k : Int} {i : Int} {r : Nat} {t : ByteArray} {nl c nk ck : Nat} {ao ako : Option Addr} (hd : 0 < d) (hd12 : d ≤ 12) (hk1 : 1 ≤ k) (hk7 : k ≤ 7) (hk2 : ¬ k = 2) (hr : r % 2 ^ 63 = 2047 * 2 ^ 52) :
    Calls Tryz.prog 15 #[.agg #[.int .i64 k, .int .i64 i, .float .f64 r, .string t, .slice ao nl c, .slice ako nk ck], .int .i64 d] w (Says P w) := by
  have hd0 : ((d : Int) == 0) = false := by rw [beq_eq_false_iff_ne]; omega
  clear hd
  have hk2b : (k == 2) = false := by rw [beq_eq_false_iff_ne]; exact hk2
  clear hk2
  have hrr : (FloatKind.f64.format.order r r != some .eq) = false := (rr_inf hr).1
  have hsub := fun w => sub_nan (rr_inf hr).2 w
  have hz : ∀ q, (FloatKind.f64.format.order (nanW q) 0 != some .eq) = true := nanW_nan
  clear hr
  go_enter Tryz.func15, Tryz.ntmps15
  go_wp2_with fail
  go_ret
  exact ⟨false, rfl, (fun h => by cases h), ((Kp.refl _ w).alloc _).drew⟩

set_option maxHeartbeats 3200000 in
set_option maxRecDepth 100000 in
theorem IsPlainNo_utf_a {P : Prop} {w : World} {d : Nat} {k : Int} {i : Int} {r : Nat} {t : ByteArray} {nl c nk ck : Nat} {ao ako : Option Addr} (hd : 0 < d) (hd12 : d ≤ 12) (hk1 : 1 ≤ k) (hk7 : k ≤ 7) (hk2 : ¬ k = 2) (hr : r % 2 ^ 63 < 2047 * 2 ^ 52) (hr64 : r < 2 ^ 64) (hts : t.size ≤ lim) (hu : ¬ Utf.ok t.data.toList = true) :
    Calls Tryz.prog 15 #[.agg #[.int .i64 k, .int .i64 i, .float .f64 r, .string t, .slice ao nl c, .slice ako nk ck], .int .i64 d] w (Says P w) := by
  have hd0 : ((d : Int) == 0) = false := by rw [beq_eq_false_iff_ne]; omega
  clear hd
  have hk2b : (k == 2) = false := by rw [beq_eq_false_iff_ne]; exact hk2
  clear hk2
  obtain ⟨x, neg, hx, hrx⟩ := word_split hr64 hr
  have hrx' : r = x ∨ r = x + 2 ^ 63 := by rw [hrx]; cases neg <;> simp [signW]
  have hrr : (FloatKind.f64.format.order r r != some .eq) = false := (rr_fin hx hrx').1
  have hsub : ∀ w, (binOp .sub 22 (.float .f64 r) (.float .f64 r)).run Tryz.prog w = .ok (.float .f64 0) w := fun w => run_float_arith w .sub _ .f64 _ _ _ (rr_fin hx hrx').2
  have hz := zero_eq
  have hucH := Lib.hid (fun W => IsUTF8_no (w := W) hts hu)
  clear hrx hrx' hx hr hr64 hts hu
  go_enter Tryz.func15, Tryz.ntmps15
  go_wp2_with (go_at_call 21; refine (hucH.out _).mono ?_; rintro ev w2 ⟨rfl, nu, rfl⟩)
  go_ret
  exact ⟨false, rfl, (fun h => by cases h), ((Kp.refl _ w).alloc _).drewN _⟩

set_option maxHeartbeats 3200000 in
set_option maxRecDepth 100000 in
theorem IsPlainNo_nan_b {P : Prop} {w : World} {d : Nat} {r : Nat} {t : ByteArray} {nl c nk ck : Nat} {ao ako : Option Addr} (hd : 0 < d) (hd12 : d ≤ 12) (hr : 2047 * 2 ^ 52 < r % 2 ^ 63) :
    Calls Tryz.prog 15 #[.agg #[.int .i64 2, .int .i64 0, .float .f64 r, .string t, .slice ao nl c, .slice ako nk ck], .int .i64 d] w (Says P w) := by
  have hd0 : ((d : Int) == 0) = false := by rw [beq_eq_false_iff_ne]; omega
  clear hd
  have hrr : (FloatKind.f64.format.order r r != some .eq) = true := rr_nan hr
  clear hr
  go_enter Tryz.func15, Tryz.ntmps15
  go_wp2_with fail
  go_ret
  exact ⟨false, rfl, (fun h => by cases h), (Kp.refl _ w).alloc _⟩

set_option maxHeartbeats 3200000 in
set_option maxRecDepth 100000 in
theorem IsPlainNo_inf_b {P : Prop} {w : World} {d : Nat} {r : Nat} {t : ByteArray} {nl c nk ck : Nat} {ao ako : Option Addr} (hd : 0 < d) (hd12 : d ≤ 12) (hr : r % 2 ^ 63 = 2047 * 2 ^ 52) :
    Calls Tryz.prog 15 #[.agg #[.int .i64 2, .int .i64 0, .float .f64 r, .string t, .slice ao nl c, .slice ako nk ck], .int .i64 d] w (Says P w) := by
  have hd0 : ((d : Int) == 0) = false := by rw [beq_eq_false_iff_ne]; omega
  clear hd
  have hrr : (FloatKind.f64.format.order r r != some .eq) = false := (rr_inf hr).1
  have hsub := fun w => sub_nan (rr_inf hr).2 w
  have hz : ∀ q, (FloatKind.f64.format.order (nanW q) 0 != some .eq) = true := nanW_nan
  clear hr
  go_enter Tryz.func15, Tryz.ntmps15
  go_wp2_with fail
  go_ret
  exact ⟨false, rfl, (fun h => by cases h), ((Kp.refl _ w).alloc _).drew⟩

set_option maxHeartbeats 3200000 in
set_option maxRecDepth 100000 in
theorem IsPlainNo_utf_b {P : Prop} {w : World} {d : Nat} {r : Nat} {t : ByteArray} {nl c nk ck : Nat} {ao ako : Option Addr} (hd : 0 < d) (hd12 : d ≤ 12) (hr : r % 2 ^ 63 < 2047 * 2 ^ 52) (hr64 : r < 2 ^ 64) (hts : t.size ≤ lim) (hu : ¬ Utf.ok t.data.toList = true) :
    Calls Tryz.prog 15 #[.agg #[.int .i64 2, .int .i64 0, .float .f64 r, .string t, .slice ao nl c, .slice ako nk ck], .int .i64 d] w (Says P w) := by
  have hd0 : ((d : Int) == 0) = false := by rw [beq_eq_false_iff_ne]; omega
  clear hd
  obtain ⟨x, neg, hx, hrx⟩ := word_split hr64 hr
  have hrx' : r = x ∨ r = x + 2 ^ 63 := by rw [hrx]; cases neg <;> simp [signW]
  have hrr : (FloatKind.f64.format.order r r != some .eq) = false := (rr_fin hx hrx').1
  have hsub : ∀ w, (binOp .sub 22 (.float .f64 r) (.float .f64 r)).run Tryz.prog w = .ok (.float .f64 0) w := fun w => run_float_arith w .sub _ .f64 _ _ _ (rr_fin hx hrx').2
  have hz := zero_eq
  have hucH := Lib.hid (fun W => IsUTF8_no (w := W) hts hu)
  clear hrx hrx' hx hr hr64 hts hu
  go_enter Tryz.func15, Tryz.ntmps15
  go_wp2_with (go_at_call 21; refine (hucH.out _).mono ?_; rintro ev w2 ⟨rfl, nu, rfl⟩)
  go_ret
  exact ⟨false, rfl, (fun h => by cases h), ((Kp.refl _ w).alloc _).drewN _⟩

set_option maxHeartbeats 3200000 in
set_option maxRecDepth 100000 in
theorem IsPlainNo_nan_c {P : Prop} {w : World} {d : Nat} {r : Nat} {t : ByteArray} {nl c nk ck : Nat} {ao ako : Option Addr} (hd : 0 < d) (hd12 : d ≤ 12) (hr : 2047 * 2 ^ 52 < r % 2 ^ 63) :
    Calls Tryz.prog 15 #[.agg #[.int .i64 2, .int .i64 1, .float .f64 r, .string t, .slice ao nl c, .slice ako nk ck], .int .i64 d] w (Says P w) := by
  have hd0 : ((d : Int) == 0) = false := by rw [beq_eq_false_iff_ne]; omega
  clear hd
  have hrr : (FloatKind.f64.format.order r r != some .eq) = true := rr_nan hr
  clear hr
  go_enter Tryz.func15, Tryz.ntmps15
  go_wp2_with fail
  go_ret
  exact ⟨false, rfl, (fun h => by cases h), (Kp.refl _ w).alloc _⟩

set_option maxHeartbeats 3200000 in
set_option maxRecDepth 100000 in
theorem IsPlainNo_inf_c {P : Prop} {w : World} {d : Nat} {r : Nat} {t : ByteArray} {nl c nk ck : Nat} {ao ako : Option Addr} (hd : 0 < d) (hd12 : d ≤ 12) (hr : r % 2 ^ 63 = 2047 * 2 ^ 52) :
    Calls Tryz.prog 15 #[.agg #[.int .i64 2, .int .i64 1, .float .f64 r, .string t, .slice ao nl c, .slice ako nk ck], .int .i64 d] w (Says P w) := by
  have hd0 : ((d : Int) == 0) = false := by rw [beq_eq_false_iff_ne]; omega
  clear hd
  have hrr : (FloatKind.f64.format.order r r != some .eq) = false := (rr_inf hr).1
  have hsub := fun w => sub_nan (rr_inf hr).2 w
  have hz : ∀ q, (FloatKind.f64.format.order (nanW q) 0 != some .eq) = true := nanW_nan
  clear hr
  go_enter Tryz.func15, Tryz.ntmps15
  go_wp2_with fail
  go_ret
  exact ⟨false, rfl, (fun h => by cases h), ((Kp.refl _ w).alloc _).drew⟩

set_option maxHeartbeats 3200000 in
set_option maxRecDepth 100000 in
theorem IsPlainNo_utf_c {P : Prop} {w : World} {d : Nat} {r : Nat} {t : ByteArray} {nl c nk ck : Nat} {ao ako : Option Addr} (hd : 0 < d) (hd12 : d ≤ 12) (hr : r % 2 ^ 63 < 2047 * 2 ^ 52) (hr64 : r < 2 ^ 64) (hts : t.size ≤ lim) (hu : ¬ Utf.ok t.data.toList = true) :
    Calls Tryz.prog 15 #[.agg #[.int .i64 2, .int .i64 1, .float .f64 r, .string t, .slice ao nl c, .slice ako nk ck], .int .i64 d] w (Says P w) := by
  have hd0 : ((d : Int) == 0) = false := by rw [beq_eq_false_iff_ne]; omega
  clear hd
  obtain ⟨x, neg, hx, hrx⟩ := word_split hr64 hr
  have hrx' : r = x ∨ r = x + 2 ^ 63 := by rw [hrx]; cases neg <;> simp [signW]
  have hrr : (FloatKind.f64.format.order r r != some .eq) = false := (rr_fin hx hrx').1
  have hsub : ∀ w, (binOp .sub 22 (.float .f64 r) (.float .f64 r)).run Tryz.prog w = .ok (.float .f64 0) w := fun w => run_float_arith w .sub _ .f64 _ _ _ (rr_fin hx hrx').2
  have hz := zero_eq
  have hucH := Lib.hid (fun W => IsUTF8_no (w := W) hts hu)
  clear hrx hrx' hx hr hr64 hts hu
  go_enter Tryz.func15, Tryz.ntmps15
  go_wp2_with (go_at_call 21; refine (hucH.out _).mono ?_; rintro ev w2 ⟨rfl, nu, rfl⟩)
  go_ret
  exact ⟨false, rfl, (fun h => by cases h), ((Kp.refl _ w).alloc _).drewN _⟩


/-- WHAT spec.IsPlain SAYS, of every value. -/
theorem IsPlain_any (d : Nat) : ∀ (v : Val) (w : World) (N : Nat) (ls kv : Value), d ≤ 12 → Subs N w v ls kv → N ≤ w.heap.size → WfV v →
    Calls Tryz.prog 15 #[.agg (aggV v ls kv), .int .i64 d] w (Says (PlainV d v) w) := by
  induction d with
  | zero =>
    intro v w N ls kv _ hS _ _
    obtain ⟨k, i, r, t, l, ks⟩ := v
    obtain ⟨⟨ao, c, rfl, _⟩, ⟨ako, ck, rfl, _⟩⟩ := hS
    exact IsPlainNo_zero
  | succ d ih =>
    intro v w N ls kv hd12 hS hN hW
    obtain ⟨k, i, r, t, l, ks⟩ := v
    obtain ⟨⟨ao, c, rfl, hl⟩, ⟨ako, ck, rfl, hk⟩⟩ := hS
    simp only [WfV] at hW
    obtain ⟨_, _, hr64, hts, hll, hkls, hksz, hWL⟩ := hW
    have hd : 0 < d + 1 := by omega
    have ih' := fun v w N ls kv => ih v w N ls kv (by omega)
    simp only [aggV]
    by_cases h1 : k < 1
    · exact IsPlainNo_low hd hd12 h1
    by_cases h7 : 7 < k
    · exact IsPlainNo_high hd hd12 (by omega) h7
    have hk1 : 1 ≤ k := by omega
    have hk7 : k ≤ 7 := by omega
    rcases Nat.lt_trichotomy (r % 2 ^ 63) (2047 * 2 ^ 52) with hr | hr | hr
    · by_cases hu : Utf.ok t.data.toList = true
      · by_cases hk2 : k = 2
        · subst hk2
          by_cases hi0 : i = 0
          · subst hi0; exact IsPlain_b hd hd12 ⟨hk1, hk7⟩ hr hr64 hu hts hll hkls hksz hl hk hN hWL ih'
          · by_cases hi1 : i = 1
            · subst hi1; exact IsPlain_c hd hd12 ⟨hk1, hk7⟩ hr hr64 hu hts hll hkls hksz hl hk hN hWL ih'
            · exact IsPlainNo_truth hd hd12 hi0 hi1
        · exact IsPlain_a hk2 hd hd12 ⟨hk1, hk7⟩ hr hr64 hu hts hll hkls hksz hl hk hN hWL ih'
      · by_cases hk2 : k = 2
        · subst hk2
          by_cases hi0 : i = 0
          · subst hi0; exact IsPlainNo_utf_b hd hd12 hr hr64 hts hu
          · by_cases hi1 : i = 1
            · subst hi1; exact IsPlainNo_utf_c hd hd12 hr hr64 hts hu
            · exact IsPlainNo_truth hd hd12 hi0 hi1
        · exact IsPlainNo_utf_a hd hd12 hk1 hk7 hk2 hr hr64 hts hu
    · by_cases hk2 : k = 2
      · subst hk2
        by_cases hi0 : i = 0
        · subst hi0; exact IsPlainNo_inf_b hd hd12 hr
        · by_cases hi1 : i = 1
          · subst hi1; exact IsPlainNo_inf_c hd hd12 hr
          · exact IsPlainNo_truth hd hd12 hi0 hi1
      · exact IsPlainNo_inf_a hd hd12 hk1 hk7 hk2 hr
    · by_cases hk2 : k = 2
      · subst hk2
        by_cases hi0 : i = 0
        · subst hi0; exact IsPlainNo_nan_b hd hd12 hr
        · by_cases hi1 : i = 1
          · subst hi1; exact IsPlainNo_nan_c hd hd12 hr
          · exact IsPlainNo_truth hd hd12 hi0 hi1
      · exact IsPlainNo_nan_a hd hd12 hk1 hk7 hk2 hr
end Go.Proofs.YtokmkkkanphihaaGreatRDoor
