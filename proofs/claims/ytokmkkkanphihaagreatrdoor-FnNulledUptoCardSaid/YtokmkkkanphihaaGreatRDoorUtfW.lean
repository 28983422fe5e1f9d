/- spec.IsUTF8: what it computes (written by genU.py). -/
import Derived.Test.YtokmkkkanphihaaGreatRDoorUtf
import Derived.Test.YtokmkkkanphihaaGreatRDoorAre
namespace Go.Proofs.YtokmkkkanphihaaGreatRDoor
open Go.RowKit Go.Sort

theorem drop_at (t : ByteArray) (k : Nat) (h : k < t.size) : t.data.toList.drop k = t[k] :: t.data.toList.drop (k + 1) := by
  rw [List.drop_eq_getElem_cons (by simpa using h)]
  rfl

theorem and63 (x : Nat) (h : x < 256) : bits BinOp.and IntKind.u8 (x : Int) 63 = (x : Int) % 64 := by
  have : ∀ y : Fin 256, bits BinOp.and IntKind.u8 (y.val : Int) 63 = (y.val : Int) % 64 := by decide +kernel
  exact this ⟨x, h⟩
theorem andM (x : Nat) (h : x < 256) : bits BinOp.and IntKind.i64 (x : Int) 31 = (x : Int) % 32 ∧ bits BinOp.and IntKind.i64 (x : Int) 15 = (x : Int) % 16 ∧ bits BinOp.and IntKind.i64 (x : Int) 7 = (x : Int) % 8 := by
  have : ∀ y : Fin 256, bits BinOp.and IntKind.i64 (y.val : Int) 31 = (y.val : Int) % 32 ∧ bits BinOp.and IntKind.i64 (y.val : Int) 15 = (y.val : Int) % 16 ∧ bits BinOp.and IntKind.i64 (y.val : Int) 7 = (y.val : Int) % 8 := by decide +kernel
  exact this ⟨x, h⟩

theorem or64 (a b : Nat) (ha : a < 1048576) (hb : b < 64) : bits BinOp.or IntKind.i64 ((a : Int) * 64) (b : Int) = (a : Int) * 64 + (b : Int) := by
  have h0 := (bits_nat .i64 32 (by decide) (fun n h0 h1 => by rw [IntKind.wrap_i64]; omega) (a * 64) b (by omega) (by omega)).2
  have h1 : a * 64 ||| b = a * 64 + b := by
    have := Nat.two_pow_add_eq_or_of_lt (i := 6) (b := b) (by simpa using hb) a
    rw [show 2 ^ 6 * a = a * 64 by omega] at this
    exact this.symm
  rw [h1] at h0
  have e : ((a * 64 : Nat) : Int) = (a : Int) * 64 := by omega
  rw [e] at h0
  rw [h0]
  omega

theorem or64b (a b : Nat) (ha : a < 1048576) : bits BinOp.or IntKind.i64 ((a : Int) * 64) ((b : Int) % 64) = (a : Int) * 64 + (b : Int) % 64 := by
  have := or64 a (b % 64) ha (Nat.mod_lt _ (by decide))
  rwa [show ((b % 64 : Nat) : Int) = (b : Int) % 64 by omega] at this

theorem take_next (l : List UInt8) (q : Nat) (h : q < l.length) : l.take (q + 1) = l.take q ++ [l[q]] := List.take_succ_eq_append_getElem h

theorem cvU_snoc (n c : Nat) (s : List UInt8) (b : UInt8) : Utf.cvU n c (s ++ [b]) = Utf.cvU n c s * 64 + b.toNat % 64 := by simp [Utf.cvU]

theorem fold_lt : ∀ (s : List UInt8) (a z : Nat), a < z → s.foldl (fun a b => a * 64 + b.toNat % 64) a < z * 64 ^ s.length
  | [], a, z, h => by simpa using h
  | b :: s, a, z, h => by
    have hb := Nat.mod_lt b.toNat (by decide : 0 < 64)
    have := fold_lt s (a * 64 + b.toNat % 64) (z * 64) (by omega)
    rw [List.foldl_cons, List.length_cons, Nat.pow_succ, Nat.mul_comm (64 ^ s.length) 64, ← Nat.mul_assoc]
    exact this

theorem cvU_lt (n c : Nat) (s : List UInt8) : Utf.cvU n c s < 2 ^ (7 - n) * 64 ^ s.length := fold_lt s _ _ (Nat.mod_lt _ (Nat.two_pow_pos _))

theorem seg_2 {t : ByteArray} {k : Nat} (hlt : k < t.size) (h1 : ¬ (t[k]'hlt).toNat < 128) (hn : Utf.nB (t[k]'hlt).toNat = 2) (hz : k + 2 ≤ t.size) :
    Utf.ok (t.data.toList.drop k) = (Utf.okSeg 2 (t[k]'hlt).toNat ((t.data.toList.drop (k + 1)).take 1) && Utf.ok (t.data.toList.drop (k + 2))) := by
  rw [drop_at t k hlt, Utf.ok_big h1, hn, if_neg (by decide), if_neg (by simp; omega)]
  congr 1
  rw [List.drop_drop]
theorem seg_short_2 {t : ByteArray} {k : Nat} (hlt : k < t.size) (h1 : ¬ (t[k]'hlt).toNat < 128) (hn : Utf.nB (t[k]'hlt).toNat = 2) (hz : t.size < k + 2) : Utf.ok (t.data.toList.drop k) = false := by
  rw [drop_at t k hlt, Utf.ok_big h1, hn, if_neg (by decide), if_pos (by simp; omega)]

theorem seg_3 {t : ByteArray} {k : Nat} (hlt : k < t.size) (h1 : ¬ (t[k]'hlt).toNat < 128) (hn : Utf.nB (t[k]'hlt).toNat = 3) (hz : k + 3 ≤ t.size) :
    Utf.ok (t.data.toList.drop k) = (Utf.okSeg 3 (t[k]'hlt).toNat ((t.data.toList.drop (k + 1)).take 2) && Utf.ok (t.data.toList.drop (k + 3))) := by
  rw [drop_at t k hlt, Utf.ok_big h1, hn, if_neg (by decide), if_neg (by simp; omega)]
  congr 1
  rw [List.drop_drop]
theorem seg_short_3 {t : ByteArray} {k : Nat} (hlt : k < t.size) (h1 : ¬ (t[k]'hlt).toNat < 128) (hn : Utf.nB (t[k]'hlt).toNat = 3) (hz : t.size < k + 3) : Utf.ok (t.data.toList.drop k) = false := by
  rw [drop_at t k hlt, Utf.ok_big h1, hn, if_neg (by decide), if_pos (by simp; omega)]

theorem seg_4 {t : ByteArray} {k : Nat} (hlt : k < t.size) (h1 : ¬ (t[k]'hlt).toNat < 128) (hn : Utf.nB (t[k]'hlt).toNat = 4) (hz : k + 4 ≤ t.size) :
    Utf.ok (t.data.toList.drop k) = (Utf.okSeg 4 (t[k]'hlt).toNat ((t.data.toList.drop (k + 1)).take 3) && Utf.ok (t.data.toList.drop (k + 4))) := by
  rw [drop_at t k hlt, Utf.ok_big h1, hn, if_neg (by decide), if_neg (by simp; omega)]
  congr 1
  rw [List.drop_drop]
theorem seg_short_4 {t : ByteArray} {k : Nat} (hlt : k < t.size) (h1 : ¬ (t[k]'hlt).toNat < 128) (hn : Utf.nB (t[k]'hlt).toNat = 4) (hz : t.size < k + 4) : Utf.ok (t.data.toList.drop k) = false := by
  rw [drop_at t k hlt, Utf.ok_big h1, hn, if_neg (by decide), if_pos (by simp; omega)]

theorem seg_none {t : ByteArray} {k : Nat} (hlt : k < t.size) (h1 : ¬ (t[k]'hlt).toNat < 128) (hn : Utf.nB (t[k]'hlt).toNat = 0) : Utf.ok (t.data.toList.drop k) = false := by
  rw [drop_at t k hlt, Utf.ok_big h1, hn, if_pos rfl]

/-- Behind a character: the rest is as the whole. -/
def Rest (t : ByteArray) (w : World) (k : Nat) (wr : World) : Prop := Utf.ok (t.data.toList.drop k) = Utf.ok t.data.toList ∧ ∃ n, wr = w.drewN n

theorem drewN_drewN (w : World) (a b : Nat) : (w.drewN a).drewN b = w.drewN (a + b) := by
  unfold World.drewN
  simp [Nat.add_assoc]

theorem Rest.drewN {t : ByteArray} {w wr : World} {k : Nat} (h : Rest t w k wr) (m : Nat) : Rest t w k (wr.drewN m) := by
  obtain ⟨h1, n, rfl⟩ := h
  exact ⟨h1, n + m, by rw [drewN_drewN]⟩

set_option maxHeartbeats 6400000 in
set_option maxRecDepth 100000 in
theorem IsUTF8_any (t : ByteArray) (w : World) (hs : t.size ≤ lim) :
    Calls Tryz.prog 21 #[.string t] w fun e w' => e = .returned (.bool (Utf.ok t.data.toList)) ∧ ∃ n, w' = w.drewN n := by
  have hs' : t.size ≤ 1099511627776 := hs
  clear hs
  go_enter Tryz.func21, Tryz.ntmps21
  go_wp2_with fail
  go_loopw [3] (fun i wr => ∃ k : Nat, k ≤ t.size ∧ i = .int .i64 k ∧ Hid (Rest t w k wr)) (fun i _ => t.size - (intOf i).toNat)
  case atStart => exact ⟨0, Nat.zero_le _, rfl, Lib.hid ⟨rfl, 0, rfl⟩⟩
  case round =>
    obtain ⟨k, hk, rfl, hR⟩ := hrel
    by_cases hlt : k < t.size
    · have hc := (t[k]'hlt).toNat_lt
      by_cases h1 : (t[k]'hlt).toNat < 128
      · go_wp2_with fail
        go_roundw
        case rel =>
          refine ⟨k + 1, by omega, by go_num, Lib.hid ⟨?_, hR.out.2⟩⟩
          rw [← hR.out.1, drop_at t k hlt, Utf.ok_ascii h1]
        case measure => simp [intOf]; omega
      · have h1H := Lib.hid h1
        rcases Utf.nB_cases (t[k]'hlt).toNat with hn | hn | hn | hn
        · have hfin := Lib.hid (hR.out.1.symm.trans (seg_none hlt h1 hn))
          have e1 : ((((t[k]'hlt).toNat : Nat) : Int) / 32 == 6) = false := by unfold Utf.nB at hn; rw [beq_eq_false_iff_ne]; split at hn <;> omega
          have e2 : ((((t[k]'hlt).toNat : Nat) : Int) / 16 == 14) = false := by unfold Utf.nB at hn; rw [beq_eq_false_iff_ne]; split at hn; omega; split at hn <;> omega
          have e3 : ((((t[k]'hlt).toNat : Nat) : Int) / 8 == 30) = false := by unfold Utf.nB at hn; rw [beq_eq_false_iff_ne]; split at hn; omega; split at hn; omega; split at hn <;> omega
          clear hn
          go_wp2_with fail
          go_ret
          exact ⟨by rw [hfin.out]; rfl, hR.out.2⟩
        · by_cases hz : k + 2 ≤ t.size
          · have hseg := Lib.hid (seg_2 hlt h1 hn hz)
            have e1 : ((((t[k]'hlt).toNat : Nat) : Int) / 32 == 6) = true := by unfold Utf.nB at hn; rw [beq_iff_eq]; split at hn; omega; split at hn; omega; split at hn <;> omega
            have hm := (andM (t[k]'hlt).toNat hc).1
            clear hn
            obtain ⟨c, hcc⟩ : ∃ c, (t[k]'hlt).toNat = c := ⟨_, rfl⟩
            have hccH := Lib.hid hcc
            have hS : (t.data.toList.drop (k + 1)).length = t.size - (k + 1) := by simp
            have hSH := Lib.hid hS
            clear hS
            have hstart : (((t[k]'hlt).toNat : Nat) : Int) % 32 = ((Utf.cvU 2 c ((t.data.toList.drop (k + 1)).take 0) : Nat) : Int) := by rw [hcc]; rfl
            have hstartH := Lib.hid hstart
            clear hstart hcc
            go_wp2_with fail
            go_quiet (fail)
            have hRq := Lib.hid (hR.out.drewN nq)
            clear hR
            go_wp2_with fail
            obtain ⟨wo, hwo⟩ : ∃ wo : World, wr.drewN nq = wo := ⟨_, rfl⟩
            rw [hwo] at hRq ⊢
            clear hwo
            go_loop [7, 8] (fun a i => ∃ q : Nat, 1 ≤ q ∧ q ≤ 2 ∧ i = .int .i64 q ∧ a = .int .i64 (Utf.cvU 2 c ((t.data.toList.drop (k + 1)).take (q - 1)) : Nat) ∧ Hid (((t.data.toList.drop (k + 1)).take (q - 1)).all (fun b => b.toNat / 64 == 2) = true)) (fun _ i => 2 - (intOf i).toNat)
            case atStart => exact ⟨1, by omega, by omega, rfl, congrArg (Value.int .i64) hstartH.out, Lib.hid rfl⟩
            case round =>
              obtain ⟨q, hq1, hqn, rfl, rfl, hall⟩ := hrel
              have hSl := hSH.out
              by_cases hqlt : q < 2
              · have hb1 : Utf.cvU 2 c ((t.data.toList.drop (k + 1)).take (q - 1)) < 32 := by
                  have h9 := cvU_lt 2 c ((t.data.toList.drop (k + 1)).take (q - 1))
                  have h8 : ((t.data.toList.drop (k + 1)).take (q - 1)).length ≤ 0 := by rw [List.length_take]; omega
                  refine Nat.lt_of_lt_of_le h9 (Nat.le_trans (Nat.mul_le_mul_left _ (Nat.pow_le_pow_right (by decide) h8)) (by decide))
                have hkq : k + q < t.size := by omega
                have hbq := (t[k + q]'hkq).toNat_lt
                have hnext : (t.data.toList.drop (k + 1)).take (q + 1 - 1) = (t.data.toList.drop (k + 1)).take (q - 1) ++ [t[k + q]'hkq] := by
                  have h7 := take_next (t.data.toList.drop (k + 1)) (q - 1) (by omega)
                  rw [show q - 1 + 1 = q + 1 - 1 by omega] at h7
                  rw [h7]
                  congr 2
                  rw [List.getElem_drop]
                  show t.data.toList[k + 1 + (q - 1)]'_ = t.data.toList[k + q]'_
                  congr 1
                  omega
                obtain ⟨a, ha⟩ : ∃ a, Utf.cvU 2 c ((t.data.toList.drop (k + 1)).take (q - 1)) = a := ⟨_, rfl⟩
                have hna : Utf.cvU 2 c ((t.data.toList.drop (k + 1)).take (q + 1 - 1)) = a * 64 + (t[k + q]'hkq).toNat % 64 := by rw [hnext, cvU_snoc, ha]
                rw [ha] at hb1 ⊢
                have hm63 := and63 (t[k + q]'hkq).toNat hbq
                have hor := or64b a (t[k + q]'hkq).toNat (by omega)
                have haH := Lib.hid ha
                have hnaH := Lib.hid hna
                have hnextH := Lib.hid hnext
                clear ha hna hnext hSl
                by_cases hct : (t[k + q]'hkq).toNat / 64 = 2
                · have hcb : ((((t[k + q]'hkq).toNat : Nat) : Int) / 64 != 2) = false := by rw [bne_eq_false_iff_eq]; omega
                  have hctH := Lib.hid hct
                  clear hct
                  go_wp2_with fail
                  go_round
                  case rel =>
                    refine ⟨q + 1, by omega, by omega, by go_num, congrArg (Value.int .i64) (by rw [hnaH.out]; omega), Lib.hid ?_⟩
                    rw [hnextH.out, List.all_append, hall.out]
                    simp [hctH.out]
                  case measure => simp [intOf]; omega
                · have hcb : ((((t[k + q]'hkq).toNat : Nat) : Int) / 64 != 2) = true := by rw [bne_iff_ne]; omega
                  have hfin : Utf.ok t.data.toList = false := by
                    rw [← hRq.out.1, hseg.out]
                    have hno : ((t.data.toList.drop (k + 1)).take 1).all (fun b => b.toNat / 64 == 2) = false := by
                      rw [List.all_eq_false]
                      refine ⟨t[k + q]'hkq, ?_, by simpa using hct⟩
                      have : (t.data.toList.drop (k + 1)).take (q + 1 - 1) <+: (t.data.toList.drop (k + 1)).take 1 := List.take_prefix_take_left (by omega)
                      exact this.subset (by rw [hnextH.out]; simp)
                    unfold Utf.okSeg
                    rw [hno]
                    rfl
                  have hfinH := Lib.hid hfin
                  clear hfin hct
                  go_wp2_with fail
                  go_ret
                  exact ⟨by rw [hfinH.out]; rfl, hRq.out.2⟩
              · obtain rfl : q = 2 := by omega
                obtain ⟨a, ha⟩ : ∃ a, Utf.cvU 2 c ((t.data.toList.drop (k + 1)).take (2 - 1)) = a := ⟨_, rfl⟩
                have hval : Utf.ok (t.data.toList.drop k) = (Utf.okV 2 a && Utf.ok (t.data.toList.drop (k + 2))) := by
                  rw [hseg.out]
                  unfold Utf.okSeg
                  rw [hall.out, hccH.out, ha, Bool.true_and]
                have hvalH := Lib.hid hval
                rw [ha]
                clear hval ha hSl
                by_cases g1 : a < 128
                · have hfin : Utf.ok t.data.toList = false := by
                    rw [← hRq.out.1, hvalH.out]
                    have : Utf.okV 2 a = false := by unfold Utf.okV Utf.least; simp <;> omega
                    rw [this]; rfl
                  have hfinH := Lib.hid hfin
                  clear hfin
                  go_wp2_with fail
                  go_ret
                  exact ⟨by rw [hfinH.out]; rfl, hRq.out.2⟩
                · by_cases g2 : 1114111 < a
                  · have hfin : Utf.ok t.data.toList = false := by
                      rw [← hRq.out.1, hvalH.out]
                      have : Utf.okV 2 a = false := by unfold Utf.okV Utf.least; simp <;> omega
                      rw [this]; rfl
                    have hfinH := Lib.hid hfin
                    clear hfin
                    go_wp2_with fail
                    go_ret
                    exact ⟨by rw [hfinH.out]; rfl, hRq.out.2⟩
                  · by_cases g3 : 55296 ≤ a
                    · by_cases g4 : a < 57344
                      · have hfin : Utf.ok t.data.toList = false := by
                          rw [← hRq.out.1, hvalH.out]
                          have : Utf.okV 2 a = false := by unfold Utf.okV Utf.least; simp <;> omega
                          rw [this]; rfl
                        have hfinH := Lib.hid hfin
                        clear hfin
                        go_wp2_with fail
                        go_ret
                        exact ⟨by rw [hfinH.out]; rfl, hRq.out.2⟩
                      · have hgo : Rest t w (k + 2) wo := by
                          refine ⟨?_, hRq.out.2⟩
                          rw [← hRq.out.1, hvalH.out]
                          have : Utf.okV 2 a = true := by unfold Utf.okV Utf.least; simp <;> omega
                          rw [this]; rfl
                        have hgoH := Lib.hid hgo
                        clear hgo
                        go_wp2_with fail
                        go_roundw
                        case rel => exact ⟨k + 2, by omega, by go_num, hgoH⟩
                        case measure => simp [intOf]; omega
                    · have hgo : Rest t w (k + 2) wo := by
                        refine ⟨?_, hRq.out.2⟩
                        rw [← hRq.out.1, hvalH.out]
                        have : Utf.okV 2 a = true := by unfold Utf.okV Utf.least; simp <;> omega
                        rw [this]; rfl
                      have hgoH := Lib.hid hgo
                      clear hgo
                      go_wp2_with fail
                      go_roundw
                      case rel => exact ⟨k + 2, by omega, by go_num, hgoH⟩
                      case measure => simp [intOf]; omega
          · have hfin := Lib.hid (hR.out.1.symm.trans (seg_short_2 hlt h1 hn (by omega)))
            have e1 : ((((t[k]'hlt).toNat : Nat) : Int) / 32 == 6) = true := by unfold Utf.nB at hn; rw [beq_iff_eq]; split at hn; omega; split at hn; omega; split at hn <;> omega
            clear hn
            go_wp2_with fail
            go_ret
            exact ⟨by rw [hfin.out]; rfl, hR.out.2⟩
        · by_cases hz : k + 3 ≤ t.size
          · have hseg := Lib.hid (seg_3 hlt h1 hn hz)
            have e1 : ((((t[k]'hlt).toNat : Nat) : Int) / 32 == 6) = false := by unfold Utf.nB at hn; rw [beq_eq_false_iff_ne]; split at hn; omega; omega
            have e2 : ((((t[k]'hlt).toNat : Nat) : Int) / 16 == 14) = true := by unfold Utf.nB at hn; rw [beq_iff_eq]; split at hn; omega; split at hn; omega; split at hn <;> omega
            have hm := (andM (t[k]'hlt).toNat hc).2.1
            clear hn
            obtain ⟨c, hcc⟩ : ∃ c, (t[k]'hlt).toNat = c := ⟨_, rfl⟩
            have hccH := Lib.hid hcc
            have hS : (t.data.toList.drop (k + 1)).length = t.size - (k + 1) := by simp
            have hSH := Lib.hid hS
            clear hS
            have hstart : (((t[k]'hlt).toNat : Nat) : Int) % 16 = ((Utf.cvU 3 c ((t.data.toList.drop (k + 1)).take 0) : Nat) : Int) := by rw [hcc]; rfl
            have hstartH := Lib.hid hstart
            clear hstart hcc
            go_wp2_with fail
            go_quiet (fail)
            have hRq := Lib.hid (hR.out.drewN nq)
            clear hR
            go_wp2_with fail
            obtain ⟨wo, hwo⟩ : ∃ wo : World, wr.drewN nq = wo := ⟨_, rfl⟩
            rw [hwo] at hRq ⊢
            clear hwo
            go_loop [7, 8] (fun a i => ∃ q : Nat, 1 ≤ q ∧ q ≤ 3 ∧ i = .int .i64 q ∧ a = .int .i64 (Utf.cvU 3 c ((t.data.toList.drop (k + 1)).take (q - 1)) : Nat) ∧ Hid (((t.data.toList.drop (k + 1)).take (q - 1)).all (fun b => b.toNat / 64 == 2) = true)) (fun _ i => 3 - (intOf i).toNat)
            case atStart => exact ⟨1, by omega, by omega, rfl, congrArg (Value.int .i64) hstartH.out, Lib.hid rfl⟩
            case round =>
              obtain ⟨q, hq1, hqn, rfl, rfl, hall⟩ := hrel
              have hSl := hSH.out
              by_cases hqlt : q < 3
              · have hb1 : Utf.cvU 3 c ((t.data.toList.drop (k + 1)).take (q - 1)) < 1024 := by
                  have h9 := cvU_lt 3 c ((t.data.toList.drop (k + 1)).take (q - 1))
                  have h8 : ((t.data.toList.drop (k + 1)).take (q - 1)).length ≤ 1 := by rw [List.length_take]; omega
                  refine Nat.lt_of_lt_of_le h9 (Nat.le_trans (Nat.mul_le_mul_left _ (Nat.pow_le_pow_right (by decide) h8)) (by decide))
                have hkq : k + q < t.size := by omega
                have hbq := (t[k + q]'hkq).toNat_lt
                have hnext : (t.data.toList.drop (k + 1)).take (q + 1 - 1) = (t.data.toList.drop (k + 1)).take (q - 1) ++ [t[k + q]'hkq] := by
                  have h7 := take_next (t.data.toList.drop (k + 1)) (q - 1) (by omega)
                  rw [show q - 1 + 1 = q + 1 - 1 by omega] at h7
                  rw [h7]
                  congr 2
                  rw [List.getElem_drop]
                  show t.data.toList[k + 1 + (q - 1)]'_ = t.data.toList[k + q]'_
                  congr 1
                  omega
                obtain ⟨a, ha⟩ : ∃ a, Utf.cvU 3 c ((t.data.toList.drop (k + 1)).take (q - 1)) = a := ⟨_, rfl⟩
                have hna : Utf.cvU 3 c ((t.data.toList.drop (k + 1)).take (q + 1 - 1)) = a * 64 + (t[k + q]'hkq).toNat % 64 := by rw [hnext, cvU_snoc, ha]
                rw [ha] at hb1 ⊢
                have hm63 := and63 (t[k + q]'hkq).toNat hbq
                have hor := or64b a (t[k + q]'hkq).toNat (by omega)
                have haH := Lib.hid ha
                have hnaH := Lib.hid hna
                have hnextH := Lib.hid hnext
                clear ha hna hnext hSl
                by_cases hct : (t[k + q]'hkq).toNat / 64 = 2
                · have hcb : ((((t[k + q]'hkq).toNat : Nat) : Int) / 64 != 2) = false := by rw [bne_eq_false_iff_eq]; omega
                  have hctH := Lib.hid hct
                  clear hct
                  go_wp2_with fail
                  go_round
                  case rel =>
                    refine ⟨q + 1, by omega, by omega, by go_num, congrArg (Value.int .i64) (by rw [hnaH.out]; omega), Lib.hid ?_⟩
                    rw [hnextH.out, List.all_append, hall.out]
                    simp [hctH.out]
                  case measure => simp [intOf]; omega
                · have hcb : ((((t[k + q]'hkq).toNat : Nat) : Int) / 64 != 2) = true := by rw [bne_iff_ne]; omega
                  have hfin : Utf.ok t.data.toList = false := by
                    rw [← hRq.out.1, hseg.out]
                    have hno : ((t.data.toList.drop (k + 1)).take 2).all (fun b => b.toNat / 64 == 2) = false := by
                      rw [List.all_eq_false]
                      refine ⟨t[k + q]'hkq, ?_, by simpa using hct⟩
                      have : (t.data.toList.drop (k + 1)).take (q + 1 - 1) <+: (t.data.toList.drop (k + 1)).take 2 := List.take_prefix_take_left (by omega)
                      exact this.subset (by rw [hnextH.out]; simp)
                    unfold Utf.okSeg
                    rw [hno]
                    rfl
                  have hfinH := Lib.hid hfin
                  clear hfin hct
                  go_wp2_with fail
                  go_ret
                  exact ⟨by rw [hfinH.out]; rfl, hRq.out.2⟩
              · obtain rfl : q = 3 := by omega
                obtain ⟨a, ha⟩ : ∃ a, Utf.cvU 3 c ((t.data.toList.drop (k + 1)).take (3 - 1)) = a := ⟨_, rfl⟩
                have hval : Utf.ok (t.data.toList.drop k) = (Utf.okV 3 a && Utf.ok (t.data.toList.drop (k + 3))) := by
                  rw [hseg.out]
                  unfold Utf.okSeg
                  rw [hall.out, hccH.out, ha, Bool.true_and]
                have hvalH := Lib.hid hval
                rw [ha]
                clear hval ha hSl
                by_cases g1 : a < 2048
                · have hfin : Utf.ok t.data.toList = false := by
                    rw [← hRq.out.1, hvalH.out]
                    have : Utf.okV 3 a = false := by unfold Utf.okV Utf.least; simp <;> omega
                    rw [this]; rfl
                  have hfinH := Lib.hid hfin
                  clear hfin
                  go_wp2_with fail
                  go_ret
                  exact ⟨by rw [hfinH.out]; rfl, hRq.out.2⟩
                · by_cases g2 : 1114111 < a
                  · have hfin : Utf.ok t.data.toList = false := by
                      rw [← hRq.out.1, hvalH.out]
                      have : Utf.okV 3 a = false := by unfold Utf.okV Utf.least; simp <;> omega
                      rw [this]; rfl
                    have hfinH := Lib.hid hfin
                    clear hfin
                    go_wp2_with fail
                    go_ret
                    exact ⟨by rw [hfinH.out]; rfl, hRq.out.2⟩
                  · by_cases g3 : 55296 ≤ a
                    · by_cases g4 : a < 57344
                      · have hfin : Utf.ok t.data.toList = false := by
                          rw [← hRq.out.1, hvalH.out]
                          have : Utf.okV 3 a = false := by unfold Utf.okV Utf.least; simp <;> omega
                          rw [this]; rfl
                        have hfinH := Lib.hid hfin
                        clear hfin
                        go_wp2_with fail
                        go_ret
                        exact ⟨by rw [hfinH.out]; rfl, hRq.out.2⟩
                      · have hgo : Rest t w (k + 3) wo := by
                          refine ⟨?_, hRq.out.2⟩
                          rw [← hRq.out.1, hvalH.out]
                          have : Utf.okV 3 a = true := by unfold Utf.okV Utf.least; simp <;> omega
                          rw [this]; rfl
                        have hgoH := Lib.hid hgo
                        clear hgo
                        go_wp2_with fail
                        go_roundw
                        case rel => exact ⟨k + 3, by omega, by go_num, hgoH⟩
                        case measure => simp [intOf]; omega
                    · have hgo : Rest t w (k + 3) wo := by
                        refine ⟨?_, hRq.out.2⟩
                        rw [← hRq.out.1, hvalH.out]
                        have : Utf.okV 3 a = true := by unfold Utf.okV Utf.least; simp <;> omega
                        rw [this]; rfl
                      have hgoH := Lib.hid hgo
                      clear hgo
                      go_wp2_with fail
                      go_roundw
                      case rel => exact ⟨k + 3, by omega, by go_num, hgoH⟩
                      case measure => simp [intOf]; omega
          · have hfin := Lib.hid (hR.out.1.symm.trans (seg_short_3 hlt h1 hn (by omega)))
            have e1 : ((((t[k]'hlt).toNat : Nat) : Int) / 32 == 6) = false := by unfold Utf.nB at hn; rw [beq_eq_false_iff_ne]; split at hn; omega; omega
            have e2 : ((((t[k]'hlt).toNat : Nat) : Int) / 16 == 14) = true := by unfold Utf.nB at hn; rw [beq_iff_eq]; split at hn; omega; split at hn; omega; split at hn <;> omega
            clear hn
            go_wp2_with fail
            go_ret
            exact ⟨by rw [hfin.out]; rfl, hR.out.2⟩
        · by_cases hz : k + 4 ≤ t.size
          · have hseg := Lib.hid (seg_4 hlt h1 hn hz)
            have e1 : ((((t[k]'hlt).toNat : Nat) : Int) / 32 == 6) = false := by unfold Utf.nB at hn; rw [beq_eq_false_iff_ne]; split at hn; omega; omega
            have e2 : ((((t[k]'hlt).toNat : Nat) : Int) / 16 == 14) = false := by unfold Utf.nB at hn; rw [beq_eq_false_iff_ne]; split at hn; omega; split at hn; omega; omega
            have e3 : ((((t[k]'hlt).toNat : Nat) : Int) / 8 == 30) = true := by unfold Utf.nB at hn; rw [beq_iff_eq]; split at hn; omega; split at hn; omega; split at hn <;> omega
            have hm := (andM (t[k]'hlt).toNat hc).2.2
            clear hn
            obtain ⟨c, hcc⟩ : ∃ c, (t[k]'hlt).toNat = c := ⟨_, rfl⟩
            have hccH := Lib.hid hcc
            have hS : (t.data.toList.drop (k + 1)).length = t.size - (k + 1) := by simp
            have hSH := Lib.hid hS
            clear hS
            have hstart : (((t[k]'hlt).toNat : Nat) : Int) % 8 = ((Utf.cvU 4 c ((t.data.toList.drop (k + 1)).take 0) : Nat) : Int) := by rw [hcc]; rfl
            have hstartH := Lib.hid hstart
            clear hstart hcc
            go_wp2_with fail
            go_quiet (fail)
            have hRq := Lib.hid (hR.out.drewN nq)
            clear hR
            go_wp2_with fail
            obtain ⟨wo, hwo⟩ : ∃ wo : World, wr.drewN nq = wo := ⟨_, rfl⟩
            rw [hwo] at hRq ⊢
            clear hwo
            go_loop [7, 8] (fun a i => ∃ q : Nat, 1 ≤ q ∧ q ≤ 4 ∧ i = .int .i64 q ∧ a = .int .i64 (Utf.cvU 4 c ((t.data.toList.drop (k + 1)).take (q - 1)) : Nat) ∧ Hid (((t.data.toList.drop (k + 1)).take (q - 1)).all (fun b => b.toNat / 64 == 2) = true)) (fun _ i => 4 - (intOf i).toNat)
            case atStart => exact ⟨1, by omega, by omega, rfl, congrArg (Value.int .i64) hstartH.out, Lib.hid rfl⟩
            case round =>
              obtain ⟨q, hq1, hqn, rfl, rfl, hall⟩ := hrel
              have hSl := hSH.out
              by_cases hqlt : q < 4
              · have hb1 : Utf.cvU 4 c ((t.data.toList.drop (k + 1)).take (q - 1)) < 32768 := by
                  have h9 := cvU_lt 4 c ((t.data.toList.drop (k + 1)).take (q - 1))
                  have h8 : ((t.data.toList.drop (k + 1)).take (q - 1)).length ≤ 2 := by rw [List.length_take]; omega
                  refine Nat.lt_of_lt_of_le h9 (Nat.le_trans (Nat.mul_le_mul_left _ (Nat.pow_le_pow_right (by decide) h8)) (by decide))
                have hkq : k + q < t.size := by omega
                have hbq := (t[k + q]'hkq).toNat_lt
                have hnext : (t.data.toList.drop (k + 1)).take (q + 1 - 1) = (t.data.toList.drop (k + 1)).take (q - 1) ++ [t[k + q]'hkq] := by
                  have h7 := take_next (t.data.toList.drop (k + 1)) (q - 1) (by omega)
                  rw [show q - 1 + 1 = q + 1 - 1 by omega] at h7
                  rw [h7]
                  congr 2
                  rw [List.getElem_drop]
                  show t.data.toList[k + 1 + (q - 1)]'_ = t.data.toList[k + q]'_
                  congr 1
                  omega
                obtain ⟨a, ha⟩ : ∃ a, Utf.cvU 4 c ((t.data.toList.drop (k + 1)).take (q - 1)) = a := ⟨_, rfl⟩
                have hna : Utf.cvU 4 c ((t.data.toList.drop (k + 1)).take (q + 1 - 1)) = a * 64 + (t[k + q]'hkq).toNat % 64 := by rw [hnext, cvU_snoc, ha]
                rw [ha] at hb1 ⊢
                have hm63 := and63 (t[k + q]'hkq).toNat hbq
                have hor := or64b a (t[k + q]'hkq).toNat (by omega)
                have haH := Lib.hid ha
                have hnaH := Lib.hid hna
                have hnextH := Lib.hid hnext
                clear ha hna hnext hSl
                by_cases hct : (t[k + q]'hkq).toNat / 64 = 2
                · have hcb : ((((t[k + q]'hkq).toNat : Nat) : Int) / 64 != 2) = false := by rw [bne_eq_false_iff_eq]; omega
                  have hctH := Lib.hid hct
                  clear hct
                  go_wp2_with fail
                  go_round
                  case rel =>
                    refine ⟨q + 1, by omega, by omega, by go_num, congrArg (Value.int .i64) (by rw [hnaH.out]; omega), Lib.hid ?_⟩
                    rw [hnextH.out, List.all_append, hall.out]
                    simp [hctH.out]
                  case measure => simp [intOf]; omega
                · have hcb : ((((t[k + q]'hkq).toNat : Nat) : Int) / 64 != 2) = true := by rw [bne_iff_ne]; omega
                  have hfin : Utf.ok t.data.toList = false := by
                    rw [← hRq.out.1, hseg.out]
                    have hno : ((t.data.toList.drop (k + 1)).take 3).all (fun b => b.toNat / 64 == 2) = false := by
                      rw [List.all_eq_false]
                      refine ⟨t[k + q]'hkq, ?_, by simpa using hct⟩
                      have : (t.data.toList.drop (k + 1)).take (q + 1 - 1) <+: (t.data.toList.drop (k + 1)).take 3 := List.take_prefix_take_left (by omega)
                      exact this.subset (by rw [hnextH.out]; simp)
                    unfold Utf.okSeg
                    rw [hno]
                    rfl
                  have hfinH := Lib.hid hfin
                  clear hfin hct
                  go_wp2_with fail
                  go_ret
                  exact ⟨by rw [hfinH.out]; rfl, hRq.out.2⟩
              · obtain rfl : q = 4 := by omega
                obtain ⟨a, ha⟩ : ∃ a, Utf.cvU 4 c ((t.data.toList.drop (k + 1)).take (4 - 1)) = a := ⟨_, rfl⟩
                have hval : Utf.ok (t.data.toList.drop k) = (Utf.okV 4 a && Utf.ok (t.data.toList.drop (k + 4))) := by
                  rw [hseg.out]
                  unfold Utf.okSeg
                  rw [hall.out, hccH.out, ha, Bool.true_and]
                have hvalH := Lib.hid hval
                rw [ha]
                clear hval ha hSl
                by_cases g1 : a < 65536
                · have hfin : Utf.ok t.data.toList = false := by
                    rw [← hRq.out.1, hvalH.out]
                    have : Utf.okV 4 a = false := by unfold Utf.okV Utf.least; simp <;> omega
                    rw [this]; rfl
                  have hfinH := Lib.hid hfin
                  clear hfin
                  go_wp2_with fail
                  go_ret
                  exact ⟨by rw [hfinH.out]; rfl, hRq.out.2⟩
                · by_cases g2 : 1114111 < a
                  · have hfin : Utf.ok t.data.toList = false := by
                      rw [← hRq.out.1, hvalH.out]
                      have : Utf.okV 4 a = false := by unfold Utf.okV Utf.least; simp <;> omega
                      rw [this]; rfl
                    have hfinH := Lib.hid hfin
                    clear hfin
                    go_wp2_with fail
                    go_ret
                    exact ⟨by rw [hfinH.out]; rfl, hRq.out.2⟩
                  · by_cases g3 : 55296 ≤ a
                    · by_cases g4 : a < 57344
                      · exfalso; omega
                      · have hgo : Rest t w (k + 4) wo := by
                          refine ⟨?_, hRq.out.2⟩
                          rw [← hRq.out.1, hvalH.out]
                          have : Utf.okV 4 a = true := by unfold Utf.okV Utf.least; simp <;> omega
                          rw [this]; rfl
                        have hgoH := Lib.hid hgo
                        clear hgo
                        go_wp2_with fail
                        go_roundw
                        case rel => exact ⟨k + 4, by omega, by go_num, hgoH⟩
                        case measure => simp [intOf]; omega
                    · exfalso; omega
          · have hfin := Lib.hid (hR.out.1.symm.trans (seg_short_4 hlt h1 hn (by omega)))
            have e1 : ((((t[k]'hlt).toNat : Nat) : Int) / 32 == 6) = false := by unfold Utf.nB at hn; rw [beq_eq_false_iff_ne]; split at hn; omega; omega
            have e2 : ((((t[k]'hlt).toNat : Nat) : Int) / 16 == 14) = false := by unfold Utf.nB at hn; rw [beq_eq_false_iff_ne]; split at hn; omega; split at hn; omega; omega
            have e3 : ((((t[k]'hlt).toNat : Nat) : Int) / 8 == 30) = true := by unfold Utf.nB at hn; rw [beq_iff_eq]; split at hn; omega; split at hn; omega; split at hn <;> omega
            clear hn
            go_wp2_with fail
            go_ret
            exact ⟨by rw [hfin.out]; rfl, hR.out.2⟩
    · have hke : k = t.size := by omega
      have hfin : Utf.ok t.data.toList = true := by
        rw [← hR.out.1, hke, List.drop_of_length_le (by simp)]
        exact Utf.ok_nil
      have hfinH := Lib.hid hfin
      clear hfin hke
      go_wp2_with fail
      go_ret
      exact ⟨by rw [hfinH.out]; rfl, hR.out.2⟩
end Go.Proofs.YtokmkkkanphihaaGreatRDoor
