/- laws.FnInARow: true, whatever the values. -/
import Derived.Test.YtokmkkkanphihaaGreatRDoorWrZ
import Derived.Test.YtokmkkkanphihaaGreatRDoorIsW
namespace Go.Proofs.YtokmkkkanphihaaGreatRDoor
open Go.RowKit Go.Sort

mutual
theorem Good_of : ∀ (d : Nat) (v : Val), PlainV d v → ShortV v → WfV v → Good v
  | d, .mk k i r t l ks, hp, hs, hw => by
    simp only [PlainV] at hp
    simp only [WfV] at hw
    simp only [ShortV] at hs
    obtain ⟨_, p1, _, _, _, p5, p6, _, p8, p9⟩ := hp
    obtain ⟨_, w2, _, _, _, _, _, w8⟩ := hw
    simp only [Good]
    refine ⟨p1, w2, hs.1, p5, fun h => ?_, fun h => ?_, GoodL_of (d - 1) l p9 hs.2 w8⟩
    · rcases List.eq_nil_or_concat l with h0 | ⟨a, z, hz⟩
      · exact h0
      · have := p8 (by rw [hz]; simp)
        omega
    · rcases List.eq_nil_or_concat ks with h0 | ⟨a, z, hz⟩
      · exact h0
      · exact absurd (p6 (by rw [hz]; simp)) h
theorem GoodL_of : ∀ (d : Nat) (l : List Val), PlainL d l → ShortL l → WfL l → GoodL l
  | _, [], _, _, _ => by simp [GoodL]
  | d, v :: vs, hp, hs, hw => by
    simp only [PlainL] at hp
    simp only [WfL] at hw
    simp only [ShortL] at hs
    simp only [GoodL]
    exact ⟨Good_of d v hp.1 hs.1 hw.1, GoodL_of d vs hp.2 hs.2 hw.2⟩
end

theorem Kind2_of {v : Val} (h : 2 ≤ kindV v) : Kind2 v := by
  obtain ⟨k, i, r, t, l, ks⟩ := v
  exact ⟨k, i, r, t, l, ks, rfl, h⟩

theorem Tabs.grow {N M : Nat} {w : World} (h : Tabs N w) (hNM : N ≤ M) (hM : M ≤ w.heap.size) : Tabs M w := ⟨h.pow, h.tab, by have := h.g1; omega, by have := h.g2; omega, hM⟩

theorem GoodL.of : ∀ {l : List Val}, (∀ j (h : j < l.length), Good l[j]) → GoodL l
  | [], _ => by simp [GoodL]
  | v :: vs, hp => by
    simp only [GoodL]
    exact ⟨hp 0 (Nat.zero_lt_succ _), GoodL.of fun j h => hp (j + 1) (Nat.succ_lt_succ h)⟩

theorem str_app (a b : List UInt8) : (⟨a.toArray⟩ : ByteArray) ++ (⟨b.toArray⟩ : ByteArray) = ⟨(a ++ b).toArray⟩ := by
  apply ByteArray.ext
  simp

set_option maxHeartbeats 3200000 in
set_option maxRecDepth 100000 in
theorem FnInARow_any {w : World} {ao : Option Addr} {c : Nat} {vs : List Val} (hT : Tabs w.heap.size w) (hl : vs = [] ∨ ∃ b2 o2, ao = some ⟨b2, o2, none⟩ ∧ PList w.heap.size w vs b2 o2) (hW : WfL vs) (hroom : costL vs + 3000 ≤ lim) (hsmall : vs.length ≤ 2147483647) :
    Calls Tryz.prog 6 #[.slice ao vs.length c] w fun ev w' => ev = .returned (.bool true) ∧ Kp (fun _ => False) w w' := by
  have hTH := Lib.hid hT
  have hlH := Lib.hid hl
  have hWH := Lib.hid hW
  have hrH := Lib.hid hroom
  clear hT hl hW hroom
  go_enter Tryz.func6, Tryz.ntmps6
  go_wp2_with fail
  go_loopw [3, 14] (fun s cc wr => ∃ j : Nat, j ≤ vs.length ∧ cc = .int .i64 j ∧ s = .string ⟨(catT (vs.take j)).toArray⟩ ∧ Hid (∀ q (h : q < j) (h2 : q < vs.length), WrittenV vs[q]) ∧ Hid (Kp (fun _ => False) w wr)) (fun _ cc _ => vs.length - (intOf cc).toNat)
  case atStart => exact ⟨0, Nat.zero_le _, rfl, rfl, Lib.hid (fun q h => by omega), Lib.hid (Kp.refl _ _)⟩
  case round =>
    obtain ⟨j, hj, rfl, rfl, hwv, hkp⟩ := hrel
    by_cases hlt : j < vs.length
    · obtain ⟨b2, o2, rfl, hPL⟩ : ∃ b2 o2, ao = some ⟨b2, o2, none⟩ ∧ PList w.heap.size w vs b2 o2 := by
        rcases hlH.out with h | h
        · subst h; simp at hlt
        · exact h
      obtain ⟨z, hz⟩ : ∃ z, vs[j] = z := ⟨_, rfl⟩
      have hPz := hPL.at j hlt
      have hWz := hWH.out.at j hlt
      have hcz := costL_at j hlt
      rw [hz] at hPz hWz hcz
      have hvz := vsz_cost z
      obtain ⟨ls2, kv2, hS2, hb2, hc2⟩ := hPz.cells
      have hisw : ∀ W, Kp (fun _ => False) w W → Calls Tryz.prog 8 #[.agg (aggV z ls2 kv2)] W (Says (WrittenV z) W) := fun W hk => isWritten_any (N := w.heap.size) (hS2.step (Nat.le_refl _) (kp_low hk (Nat.le_refl _))) hk.size hWz (by have := hrH.out; omega)
      have hwr : ∀ W, Kp (fun _ => False) w W → WrittenV z → Calls Tryz.prog 10 #[.agg (aggV z ls2 kv2), .int .i64 0] W (WrOut W (valT (redV 0 z))) := fun W hk hw =>
        Written_zero ((hTH.out.step (kp_low hk (Nat.le_refl _)) hk.size).grow hk.size (Nat.le_refl _)) (hS2.step hk.size (kp_low hk (Nat.le_refl _))) (Good_of 12 z hw.2.1 hw.2.2 hWz) (Kind2_of hw.1) (by have := hrH.out; omega)
      have hgt : GoodL (vs.take j) := GoodL.of fun q hq => by
        have hq' : q < j ∧ q < vs.length := by rw [List.length_take] at hq; omega
        rw [List.getElem_take]
        have hwq := hwv.out q hq'.1 hq'.2
        exact Good_of 12 _ hwq.2.1 hwq.2.2 (hWH.out.at q hq'.2)
      have hbnd : WrittenV z → (catT (vs.take j)).length + (valT (redV 0 z)).length ≤ 1099511627776 := fun hw => by
        have a1 := catT_len (vs.take j) hgt
        have a2 := valT_len 0 z (Good_of 12 z hw.2.1 hw.2.2 hWz)
        have a3 : costL (vs.take j) + costL (vs.drop j) = costL vs := by rw [← costL_append, List.take_append_drop]
        have a4 : vs.drop j = vs[j] :: vs.drop (j + 1) := List.drop_eq_getElem_cons hlt
        rw [a4, costL, hz] at a3
        have a5 : costL vs + 3000 ≤ 1099511627776 := hrH.out
        omega
      obtain ⟨k', i', r', t', l', ks'⟩ := z
      obtain ⟨⟨ao2, cq, rfl, _⟩, ⟨ak2, cr, rfl, _⟩⟩ := hS2
      simp only [aggV] at hisw hwr
      have hcell : ∀ W, Kp (fun _ => False) w W → W.cell? ⟨b2, o2 + j * 6, none⟩ = some (.int .i64 k') ∧ W.cell? ⟨b2, o2 + j * 6 + 1, none⟩ = some (.int .i64 i') ∧ W.cell? ⟨b2, o2 + j * 6 + 2, none⟩ = some (.float .f64 r') ∧ W.cell? ⟨b2, o2 + j * 6 + 3, none⟩ = some (.string t') ∧ W.cell? ⟨b2, o2 + j * 6 + 4, none⟩ = some (.slice ao2 l'.length cq) ∧ W.cell? ⟨b2, o2 + j * 6 + 5, none⟩ = some (.slice ak2 ks'.length cr) := fun W hk => ⟨by rw [show o2 + j * 6 = o2 + 6 * j + 0 by omega, World.cell?_of_block (kp_low hk (Nat.le_refl _) b2 hb2)]; exact hc2 0 (by decide), by rw [show o2 + j * 6 + 1 = o2 + 6 * j + 1 by omega, World.cell?_of_block (kp_low hk (Nat.le_refl _) b2 hb2)]; exact hc2 1 (by decide), by rw [show o2 + j * 6 + 2 = o2 + 6 * j + 2 by omega, World.cell?_of_block (kp_low hk (Nat.le_refl _) b2 hb2)]; exact hc2 2 (by decide), by rw [show o2 + j * 6 + 3 = o2 + 6 * j + 3 by omega, World.cell?_of_block (kp_low hk (Nat.le_refl _) b2 hb2)]; exact hc2 3 (by decide), by rw [show o2 + j * 6 + 4 = o2 + 6 * j + 4 by omega, World.cell?_of_block (kp_low hk (Nat.le_refl _) b2 hb2)]; exact hc2 4 (by decide), by rw [show o2 + j * 6 + 5 = o2 + 6 * j + 5 by omega, World.cell?_of_block (kp_low hk (Nat.le_refl _) b2 hb2)]; exact hc2 5 (by decide)⟩
      obtain ⟨d0, d1, d2, d3, d4, d5⟩ := hcell wr hkp.out
      have hiswH := Lib.hid hisw
      have hwrH := Lib.hid hwr
      have hcellH := Lib.hid hcell
      have hzH := Lib.hid hz
      have hbH := Lib.hid hbnd
      clear hisw hwr hcell hz hPz hWz hcz hvz hc2 hPL hgt hbnd
      go_wp2_with (first
        | (go_at_call 8; refine (hiswH.out _ hkp.out).mono ?_; rintro ev w2 ⟨bz, rfl, hbz, hk2⟩; have hbzH := Lib.hid hbz; have hk2H := Lib.hid (hkp.out.trans hk2); clear hbz hk2; obtain ⟨m0, m1, m2, m3, m4, m5⟩ := hcellH.out w2 hk2H.out)
        | (go_at_call 10; refine (hwrH.out _ hk2H.out (hbzH.out (by simpa using (by assumption : (!bz) = false)))).mono ?_; rintro ev w3 ⟨rfl, hk3⟩; have hk3H := Lib.hid (hk2H.out.trans hk3); clear hk3; have hsz := hbH.out (hbzH.out (by simpa using (by assumption : (!bz) = false))))
        )
      · go_ret
        exact ⟨rfl, hk2H.out⟩
      · have hbt : bz = true := by simpa using (by assumption : (!bz) = false)
        have hall : ∀ q (h : q < j + 1) (h2 : q < vs.length), WrittenV vs[q] := fun q h h2 => by
          by_cases hq : q = j
          · subst hq; rw [hzH.out]; exact hbzH.out hbt
          · exact hwv.out q (by omega) h2
        have hcat : (⟨(catT (vs.take j)).toArray⟩ : ByteArray) ++ (⟨(valT (redV 0 (.mk k' i' r' t' l' ks'))).toArray⟩ : ByteArray) = ⟨(catT (vs.take (j + 1))).toArray⟩ := by
          rw [str_app, show vs.take (j + 1) = vs.take j ++ [vs[j]] from List.take_succ_eq_append_getElem hlt, catT_snoc, hzH.out]
        go_roundw
        case rel => exact ⟨j + 1, by omega, by go_num, congrArg Value.string hcat, Lib.hid hall, Lib.hid hk3H.out⟩
        case measure => simp [intOf]; omega
    · have hje : j = vs.length := by omega
      subst hje
      have hG : GoodL vs := GoodL.of fun q hq => by
        have hwq := hwv.out q hq hq
        exact Good_of 12 _ hwq.2.1 hwq.2.2 (hWH.out.at q hq)
      have hK : ∀ q (h : q < vs.length), Kind2 vs[q] := fun q hq => Kind2_of (hwv.out q hq hq).1
      have hall : Calls Tryz.prog 13 #[.slice ao vs.length c] wr fun ev w' => ev = .returned (.tuple #[.string ⟨(catT vs).toArray⟩, .bool true]) ∧ Kp (fun _ => False) wr w' := by
        refine WrittenAll_any ((hTH.out.step (kp_low hkp.out (Nat.le_refl _)) hkp.out.size).grow hkp.out.size (Nat.le_refl _)) ?_ hG hK (by have := hrH.out; omega)
        rcases hlH.out with h | ⟨b2, o2, h1, h2⟩
        · exact .inl h
        · exact .inr ⟨b2, o2, h1, (h2.step (kp_low hkp.out (Nat.le_refl _))).up hkp.out.size⟩
      have hallH := Lib.hid hall
      clear hall hG hK
      rw [List.take_length]
      go_wp2_with (go_at_call 13; refine hallH.out.mono ?_; rintro ev w2 ⟨rfl, hk2⟩; have hk2H := Lib.hid hk2; clear hk2)
      go_ret
      exact ⟨rfl, hkp.out.trans hk2H.out⟩
end Go.Proofs.YtokmkkkanphihaaGreatRDoor
