/- spec.Means: a node that stands for a value means it (written by genMe.py). -/
import Derived.Test.YtokmkkkanphihaaGreatRDoorYNumb
import Derived.Test.YtokmkkkanphihaaGreatRDoorYRde
import Derived.Test.YtokmkkkanphihaaGreatRDoorIsW
import Derived.StillTailTactics
namespace Go.Proofs.YtokmkkkanphihaaGreatRDoor
open Go.RowKit Go.Sort

/-- It says yes, and stores nothing. -/
def Yes (w : World) (e : Ending) (w' : World) : Prop := e = .returned (.bool true) ∧ Kp (fun _ => False) w w'

theorem real_self {r : Nat} {t : List UInt8} (h : RealTxt r t) : (FloatKind.f64.format.order r r == some .eq) = true := by
  have key : ∀ x, x < 2047 * 2 ^ 52 → r = x ∨ r = x + 2 ^ 63 → (FloatKind.f64.format.order r r == some .eq) = true := fun x hx hr => by
    have h1 := (rr_fin hx hr).1
    have h2 : (FloatKind.f64.format.order r r != some .eq) = false := h1
    simpa [bne] using h2
  rcases h with ⟨neg, rfl, _⟩ | ⟨neg, n, k, mag, _, hn, hk, _, hd, rfl, _⟩
  · refine key 0 (by decide) ?_
    cases neg <;> simp [signW]
  · obtain ⟨q, hq, hqlt, _, _⟩ := Fl.div_some (n := n) (k := k) (by omega) (by omega)
    have hqm : q = mag := by
      have h2 : Ieee.double.div (Fl.ofN n) (Fl.tenW k) = some mag := hd
      rw [hq] at h2
      exact Option.some.inj h2
    refine key mag (by rw [← hqm]; exact hqlt) ?_
    cases neg <;> simp [signW]

set_option maxHeartbeats 3200000 in
set_option maxRecDepth 100000 in
theorem Means_1 {w : World} {i x y : Int} {r : Nat} {t : ByteArray} {la ka lb kb : Option Addr} {n1 n2 n3 n4 n5 n6 n7 n8 : Nat} {tx : ByteArray} :
    Calls Tryz.prog 22 #[.agg #[.int .i64 1, .string tx, .slice la n1 n2, .slice ka n3 n4, .int .i64 x, .int .i64 y], .agg #[.int .i64 1, .int .i64 i, .float .f64 r, .string t, .slice lb n5 n6, .slice kb n7 n8]] w (Yes w) := by
  go_enter Tryz.func22, Tryz.ntmps22
  go_wp2_with fail
  go_ret
  refine ⟨rfl, ((Kp.refl _ w).alloc _).alloc _⟩

set_option maxHeartbeats 3200000 in
set_option maxRecDepth 100000 in
theorem Means_2t {w : World} {x y : Int} {r : Nat} {t : ByteArray} {la ka lb kb : Option Addr} {n1 n2 n3 n4 n5 n6 n7 n8 : Nat} :
    Calls Tryz.prog 22 #[.agg #[.int .i64 2, .string ⟨#[116, 114, 117, 101]⟩, .slice la n1 n2, .slice ka n3 n4, .int .i64 x, .int .i64 y], .agg #[.int .i64 2, .int .i64 1, .float .f64 r, .string t, .slice lb n5 n6, .slice kb n7 n8]] w (Yes w) := by
  go_enter Tryz.func22, Tryz.ntmps22
  go_wp2_with fail
  go_ret
  refine ⟨rfl, ((Kp.refl _ w).alloc _).alloc _⟩

set_option maxHeartbeats 3200000 in
set_option maxRecDepth 100000 in
theorem Means_2f {w : World} {i x y : Int} {r : Nat} {t : ByteArray} {la ka lb kb : Option Addr} {n1 n2 n3 n4 n5 n6 n7 n8 : Nat} (hi : (i == 1) = false) :
    Calls Tryz.prog 22 #[.agg #[.int .i64 2, .string ⟨#[102, 97, 108, 115, 101]⟩, .slice la n1 n2, .slice ka n3 n4, .int .i64 x, .int .i64 y], .agg #[.int .i64 2, .int .i64 i, .float .f64 r, .string t, .slice lb n5 n6, .slice kb n7 n8]] w (Yes w) := by
  go_enter Tryz.func22, Tryz.ntmps22
  go_wp2_with fail
  go_ret
  refine ⟨rfl, ((Kp.refl _ w).alloc _).alloc _⟩

set_option maxHeartbeats 3200000 in
set_option maxRecDepth 100000 in
theorem Means_3 {w : World} {i x y : Int} {r : Nat} {t : ByteArray} {la ka lb kb : Option Addr} {n1 n2 n3 n4 n5 n6 n7 n8 : Nat} (h0 : -9223372036854775808 ≤ i) (h1 : i ≤ 9223372036854775807) :
    Calls Tryz.prog 22 #[.agg #[.int .i64 3, .string ⟨(Lib.itoa i).toArray⟩, .slice la n1 n2, .slice ka n3 n4, .int .i64 x, .int .i64 y], .agg #[.int .i64 3, .int .i64 i, .float .f64 r, .string t, .slice lb n5 n6, .slice kb n7 n8]] w (Yes w) := by
  have hI := Lib.hid (fun W => Int_any h0 h1 W)
  generalize (⟨(Lib.itoa i).toArray⟩ : ByteArray) = T at hI ⊢
  go_enter Tryz.func22, Tryz.ntmps22
  go_wp2_with (go_at_call 38; refine (hI.out _).mono ?_; rintro e w2 ⟨rfl, n9, rfl⟩)
  go_ret
  refine ⟨rfl, (((Kp.refl _ w).alloc _).alloc _).drewN _⟩

set_option maxHeartbeats 3200000 in
set_option maxRecDepth 100000 in
theorem Means_4 {w : World} {i x y : Int} {r : Nat} {t : ByteArray} {la ka lb kb : Option Addr} {n1 n2 n3 n4 n5 n6 n7 n8 : Nat} {tx : List UInt8} (hr : RealTxt r tx) :
    Calls Tryz.prog 22 #[.agg #[.int .i64 3, .string ⟨tx.toArray⟩, .slice la n1 n2, .slice ka n3 n4, .int .i64 x, .int .i64 y], .agg #[.int .i64 4, .int .i64 i, .float .f64 r, .string t, .slice lb n5 n6, .slice kb n7 n8]] w (Yes w) := by
  have hI := Lib.hid (fun W => Float_any hr W)
  have hrr := real_self hr
  generalize (⟨tx.toArray⟩ : ByteArray) = T at hI ⊢
  clear hr
  go_enter Tryz.func22, Tryz.ntmps22
  go_wp2_with (go_at_call 39; refine (hI.out _).mono ?_; rintro e w2 ⟨rfl, n9, rfl⟩)
  go_ret
  refine ⟨rfl, (((Kp.refl _ w).alloc _).alloc _).drewN _⟩

set_option maxHeartbeats 3200000 in
set_option maxRecDepth 100000 in
theorem Means_5 {w : World} {i x y : Int} {r : Nat} {t : ByteArray} {la ka lb kb : Option Addr} {n1 n2 n3 n4 n5 n6 n7 n8 : Nat} :
    Calls Tryz.prog 22 #[.agg #[.int .i64 5, .string t, .slice la n1 n2, .slice ka n3 n4, .int .i64 x, .int .i64 y], .agg #[.int .i64 5, .int .i64 i, .float .f64 r, .string t, .slice lb n5 n6, .slice kb n7 n8]] w (Yes w) := by
  go_enter Tryz.func22, Tryz.ntmps22
  go_wp2_with fail
  go_ret
  refine ⟨rfl, ((Kp.refl _ w).alloc _).alloc _⟩

set_option maxHeartbeats 3200000 in
set_option maxRecDepth 100000 in
theorem Means_6 {w : World} {N : Nat} {S : Nat → Prop} {i x y : Int} {r : Nat} {t : ByteArray} {l : List Val} {ks : List ByteArray} {ls kz lv kv : Value} (hll : l.length ≤ lim) (hkl : ks.length ≤ lim)
    (hNL : NodesIn S w l ls) (hNK : KeysIn S w ks kz) (hSw : ∀ k, S k → k < w.heap.size) (hV : Subs N w (.mk 6 i r t l ks) lv kv) (hNw : N ≤ w.heap.size)
    (hih : ∀ j (hj : j < l.length) W ls kz x y lv kv, NSubs S W l[j] ls kz → Subs N W l[j] lv kv → N ≤ W.heap.size → (∀ k, S k → k < W.heap.size) → Calls Tryz.prog 22 #[.agg (aggN l[j] ls kz x y), .agg (aggV l[j] lv kv)] W (Yes W)) :
    Calls Tryz.prog 22 #[.agg #[.int .i64 6, .string ⟨#[]⟩, ls, kz, .int .i64 x, .int .i64 y], .agg #[.int .i64 6, .int .i64 i, .float .f64 r, .string t, lv, kv]] w (Yes w) := by
  obtain ⟨la, n2, rfl, hN1⟩ := hNL
  obtain ⟨ka, n4, rfl, hN2⟩ := hNK
  obtain ⟨⟨lb, n6, rfl, hL1⟩, ⟨kb, n8, rfl, hL2⟩⟩ := hV
  have hll' : l.length ≤ 1099511627776 := hll
  have hkl' : ks.length ≤ 1099511627776 := hkl
  obtain ⟨W0, hW0⟩ : ∃ W0, (w.alloc (.cells #[.int .i64 6, .string ⟨#[]⟩, .slice la l.length n2, .slice ka ks.length n4, .int .i64 x, .int .i64 y] 48)).alloc (.cells #[.int .i64 6, .int .i64 i, .float .f64 r, .string t, .slice lb l.length n6, .slice kb ks.length n8] 26) = W0 := ⟨_, rfl⟩
  have hW0s : Hid (W0.heap.size = w.heap.size + 2) := Lib.hid (by rw [← hW0]; simp)
  have hW0o : Hid (∀ k, k < w.heap.size → W0.heap[k]? = w.heap[k]?) := Lib.hid (fun k hk => by rw [← hW0, heap_alloc_old _ _ _ (by simp; omega), heap_alloc_old _ _ _ hk])
  have hbox : Hid ((∀ q, W0.cell? ⟨w.heap.size, q, none⟩ = (#[.int .i64 6, .string ⟨#[]⟩, .slice la l.length n2, .slice ka ks.length n4, .int .i64 x, .int .i64 y] : Array Value)[q]?) ∧ ∀ q, W0.cell? ⟨w.heap.size + 1, q, none⟩ = (#[.int .i64 6, .int .i64 i, .float .f64 r, .string t, .slice lb l.length n6, .slice kb ks.length n8] : Array Value)[q]?) := Lib.hid (by
    refine ⟨fun q => ?_, fun q => ?_⟩
    · rw [← hW0]
      exact cells_alloc (heap_alloc_new w _) _ q
    · rw [← hW0]
      have := World.cell?_alloc_new (w.alloc (.cells #[.int .i64 6, .string ⟨#[]⟩, .slice la l.length n2, .slice ka ks.length n4, .int .i64 x, .int .i64 y] 48)) (#[.int .i64 6, .int .i64 i, .float .f64 r, .string t, .slice lb l.length n6, .slice kb ks.length n8] : Array Value) 26 q
      simp only [World.size_alloc] at this
      exact this)
  have hW0k : Hid (Kp (fun _ => False) w W0) := Lib.hid (by rw [← hW0]; exact ((Kp.refl _ w).alloc _).alloc _)
  have hNH := Lib.hid hN1
  have hKH := Lib.hid hN2
  have hLH := Lib.hid hL1
  have hJH := Lib.hid hL2
  have hSlt := Lib.hid hSw
  have hNle := Lib.hid hNw
  have hihH := Lib.hid hih
  have hW0H := Lib.hid hW0
  clear hN1 hN2 hL1 hL2 hSw hNw hih hll hkl hW0
  go_enter Tryz.func22, Tryz.ntmps22
  go_wp2_with fail
  rw [hW0H.out]
  clear hW0H
  go_loopw [110] (fun cc wr => ∃ j : Nat, j ≤ ks.length ∧ cc = .int .i64 j ∧ Hid (Kp (fun _ => False) W0 wr)) (fun cc _ => ks.length - (intOf cc).toNat)
  case atStart => exact ⟨0, Nat.zero_le _, rfl, Lib.hid (Kp.refl _ _)⟩
  case round =>
    obtain ⟨j, hj, rfl, hkp⟩ := hrel
    have m3 : wr.cell? ⟨w.heap.size, 3, none⟩ = some (.slice ka ks.length n4) := (kp_cell hkp.out (by rw [hW0s.out]; omega) 3).trans (hbox.out.1 3)
    have v5 : wr.cell? ⟨w.heap.size + 1, 5, none⟩ = some (.slice kb ks.length n8) := (kp_cell hkp.out (by rw [hW0s.out]; omega) 5).trans (hbox.out.2 5)
    by_cases hlt : j < ks.length
    · obtain ⟨nb2, no2, rfl, hSb, hPN⟩ : ∃ nb2 no2, ka = some ⟨nb2, no2, none⟩ ∧ S nb2 ∧ ∀ j (h : j < ks.length), w.cell? ⟨nb2, no2 + j, none⟩ = some (.string ks[j]) := by
        rcases hKH.out with h | h
        · subst h; simp at hlt
        · exact h
      obtain ⟨b2, o2, rfl, hb2, hPL⟩ : ∃ b2 o2, kb = some ⟨b2, o2, none⟩ ∧ b2 < N ∧ ∀ j (h : j < ks.length), w.cell? ⟨b2, o2 + j, none⟩ = some (.string ks[j]) := by
        rcases hJH.out with h | h
        · subst h; simp at hlt
        · exact h
      have hlw : ∀ k, k < w.heap.size → wr.heap[k]? = w.heap[k]? := fun k hk => (hkp.out.block k (by rw [hW0s.out]; omega) (fun h => h)).trans (hW0o.out k hk)
      obtain ⟨key, hkey⟩ : ∃ key, ks[j] = key := ⟨_, rfl⟩
      have e0 : wr.cell? ⟨nb2, no2 + j, none⟩ = some (.string key) := by rw [World.cell?_of_block (hlw nb2 (hSlt.out _ hSb)), ← hkey]; exact hPN j hlt
      have d0 : wr.cell? ⟨b2, o2 + j, none⟩ = some (.string key) := by rw [World.cell?_of_block (hlw b2 (by have := hNle.out; omega)), ← hkey]; exact hPL j hlt
      clear hkey hPN hPL hlw hSb hb2
      go_wp2_with fail
      go_quiet (fail)
      go_wp2_with fail
      go_roundw
      case rel => exact ⟨j + 1, by omega, by go_num, Lib.hid (hkp.out.drewN _)⟩
      case measure => simp [intOf]; omega
    · have hje : j = ks.length := by omega
      subst hje
      clear m3 v5
      have v4 : wr.cell? ⟨w.heap.size + 1, 4, none⟩ = some (.slice lb l.length n6) := (kp_cell hkp.out (by rw [hW0s.out]; omega) 4).trans (hbox.out.2 4)
      go_wp2_with fail
      have hkk := hkp
      go_loopw [128] (fun cc wr => ∃ j : Nat, j ≤ l.length ∧ cc = .int .i64 j ∧ Hid (Kp (fun _ => False) W0 wr)) (fun cc _ => l.length - (intOf cc).toNat)
      case atStart => exact ⟨0, Nat.zero_le _, rfl, hkk⟩
      case round =>
        obtain ⟨j, hj, rfl, hkp⟩ := hrel
        have m2 : wr.cell? ⟨w.heap.size, 2, none⟩ = some (.slice la l.length n2) := (kp_cell hkp.out (by rw [hW0s.out]; omega) 2).trans (hbox.out.1 2)
        have v4 : wr.cell? ⟨w.heap.size + 1, 4, none⟩ = some (.slice lb l.length n6) := (kp_cell hkp.out (by rw [hW0s.out]; omega) 4).trans (hbox.out.2 4)
        by_cases hlt : j < l.length
        · obtain ⟨nb2, no2, rfl, hSb, hPN⟩ : ∃ nb2 no2, la = some ⟨nb2, no2, none⟩ ∧ S nb2 ∧ PNodes S w l nb2 no2 := by
            rcases hNH.out with h | h
            · subst h; simp at hlt
            · exact h
          obtain ⟨b2, o2, rfl, hPL⟩ : ∃ b2 o2, lb = some ⟨b2, o2, none⟩ ∧ PList N w l b2 o2 := by
            rcases hLH.out with h | h
            · subst h; simp at hlt
            · exact h
          have hlw : ∀ k, k < w.heap.size → wr.heap[k]? = w.heap[k]? := fun k hk => (hkp.out.block k (by rw [hW0s.out]; omega) (fun h => h)).trans (hW0o.out k hk)
          obtain ⟨ls1, kz1, x1, y1, hN1, hc1⟩ := (hPN.at j hlt).cells
          obtain ⟨ls2, kv2, hS2, hb2, hc2⟩ := (hPL.at j hlt).cells
          have hcall := hihH.out j hlt wr.drew ls1 kz1 x1 y1 ls2 kv2 (hN1.step (w' := wr.drew) (fun k hk => hlw k (hSlt.out k hk)) (fun _ h => h)) (hS2.step (w' := wr.drew) (Nat.le_refl _) (fun k hk => hlw k (by have := hNle.out; omega))) (by have h1 := hkp.out.size; have h2 := hNle.out; rw [hW0s.out] at h1; show N ≤ wr.heap.size; omega) (fun k hk => by have h1 := hkp.out.size; have h2 := hSlt.out k hk; rw [hW0s.out] at h1; show k < wr.heap.size; omega)
          have hnb := hSlt.out nb2 hSb
          have hb2w : b2 < w.heap.size := by have := hNle.out; omega
          obtain ⟨z, hz⟩ : ∃ z, l[j] = z := ⟨_, rfl⟩
          rw [hz] at hN1 hS2
          have hc1' : ∀ q (hq : q < 6), wr.cell? ⟨nb2, no2 + 6 * j + q, none⟩ = (aggN z ls1 kz1 x1 y1)[q]? := fun q hq => by
            rw [World.cell?_of_block (hlw nb2 hnb), hc1 q hq, ← hz]
            exact (Array.getElem?_eq_getElem _).symm
          have hc2' : ∀ q (hq : q < 6), wr.cell? ⟨b2, o2 + 6 * j + q, none⟩ = (aggV z ls2 kv2)[q]? := fun q hq => by
            rw [World.cell?_of_block (hlw b2 hb2w), hc2 q hq, ← hz]
            exact (Array.getElem?_eq_getElem _).symm
          rw [hz] at hcall
          obtain ⟨k', i', r', t', l', ks'⟩ := z
          obtain ⟨⟨ao1, q1, rfl, _⟩, ⟨ak1, q2, rfl, _⟩⟩ := hN1
          obtain ⟨⟨ao2, q3, rfl, _⟩, ⟨ak2, q4, rfl, _⟩⟩ := hS2
          simp only [aggN, aggV] at hcall hc1' hc2'
          have e0 : wr.cell? ⟨nb2, no2 + j * 6, none⟩ = some (.int .i64 (nodeK k')) := by rw [show no2 + j * 6 = no2 + 6 * j + 0 by omega]; exact hc1' 0 (by decide)
          have e1 : wr.cell? ⟨nb2, no2 + j * 6 + 1, none⟩ = some (.string (nodeT k' i' r' t')) := by rw [show no2 + j * 6 + 1 = no2 + 6 * j + 1 by omega]; exact hc1' 1 (by decide)
          have e2 : wr.cell? ⟨nb2, no2 + j * 6 + 2, none⟩ = some (.slice ao1 l'.length q1) := by rw [show no2 + j * 6 + 2 = no2 + 6 * j + 2 by omega]; exact hc1' 2 (by decide)
          have e3 : wr.cell? ⟨nb2, no2 + j * 6 + 3, none⟩ = some (.slice ak1 ks'.length q2) := by rw [show no2 + j * 6 + 3 = no2 + 6 * j + 3 by omega]; exact hc1' 3 (by decide)
          have e4 : wr.cell? ⟨nb2, no2 + j * 6 + 4, none⟩ = some (.int .i64 x1) := by rw [show no2 + j * 6 + 4 = no2 + 6 * j + 4 by omega]; exact hc1' 4 (by decide)
          have e5 : wr.cell? ⟨nb2, no2 + j * 6 + 5, none⟩ = some (.int .i64 y1) := by rw [show no2 + j * 6 + 5 = no2 + 6 * j + 5 by omega]; exact hc1' 5 (by decide)
          have d0 : wr.cell? ⟨b2, o2 + j * 6, none⟩ = some (.int .i64 k') := by rw [show o2 + j * 6 = o2 + 6 * j + 0 by omega]; exact hc2' 0 (by decide)
          have d1 : wr.cell? ⟨b2, o2 + j * 6 + 1, none⟩ = some (.int .i64 i') := by rw [show o2 + j * 6 + 1 = o2 + 6 * j + 1 by omega]; exact hc2' 1 (by decide)
          have d2 : wr.cell? ⟨b2, o2 + j * 6 + 2, none⟩ = some (.float .f64 r') := by rw [show o2 + j * 6 + 2 = o2 + 6 * j + 2 by omega]; exact hc2' 2 (by decide)
          have d3 : wr.cell? ⟨b2, o2 + j * 6 + 3, none⟩ = some (.string t') := by rw [show o2 + j * 6 + 3 = o2 + 6 * j + 3 by omega]; exact hc2' 3 (by decide)
          have d4 : wr.cell? ⟨b2, o2 + j * 6 + 4, none⟩ = some (.slice ao2 l'.length q3) := by rw [show o2 + j * 6 + 4 = o2 + 6 * j + 4 by omega]; exact hc2' 4 (by decide)
          have d5 : wr.cell? ⟨b2, o2 + j * 6 + 5, none⟩ = some (.slice ak2 ks'.length q4) := by rw [show o2 + j * 6 + 5 = o2 + 6 * j + 5 by omega]; exact hc2' 5 (by decide)
          have hcallH := Lib.hid hcall
          clear hcall hz hPN hPL hc1 hc2 hc1' hc2' hlw hSb
          generalize nodeK k' = nk at *
          generalize nodeT k' i' r' t' = nt at *
          go_wp2_with fail
          go_still_tail 10, (by kernel_rfl)
          go_wp2_with (go_at_call 22; refine hcallH.out.mono ?_; rintro e w3 ⟨rfl, hk3⟩; have hk3H := Lib.hid (hkp.out.drew.trans hk3); clear hk3)
          go_roundw
          case rel => exact ⟨j + 1, by omega, by go_num, hk3H⟩
          case measure => simp [intOf]; omega
        · have hje : j = l.length := by omega
          subst hje
          go_wp2_with fail
          go_ret
          exact ⟨rfl, hW0k.out.trans hkp.out⟩

set_option maxHeartbeats 3200000 in
set_option maxRecDepth 100000 in
theorem Means_7 {w : World} {N : Nat} {S : Nat → Prop} {i x y : Int} {r : Nat} {t : ByteArray} {l : List Val} {ks : List ByteArray} {ls kz lv kv : Value} (hll : l.length ≤ lim) (hkl : ks.length ≤ lim)
    (hNL : NodesIn S w l ls) (hNK : KeysIn S w ks kz) (hSw : ∀ k, S k → k < w.heap.size) (hV : Subs N w (.mk 7 i r t l ks) lv kv) (hNw : N ≤ w.heap.size)
    (hih : ∀ j (hj : j < l.length) W ls kz x y lv kv, NSubs S W l[j] ls kz → Subs N W l[j] lv kv → N ≤ W.heap.size → (∀ k, S k → k < W.heap.size) → Calls Tryz.prog 22 #[.agg (aggN l[j] ls kz x y), .agg (aggV l[j] lv kv)] W (Yes W)) :
    Calls Tryz.prog 22 #[.agg #[.int .i64 7, .string ⟨#[]⟩, ls, kz, .int .i64 x, .int .i64 y], .agg #[.int .i64 7, .int .i64 i, .float .f64 r, .string t, lv, kv]] w (Yes w) := by
  obtain ⟨la, n2, rfl, hN1⟩ := hNL
  obtain ⟨ka, n4, rfl, hN2⟩ := hNK
  obtain ⟨⟨lb, n6, rfl, hL1⟩, ⟨kb, n8, rfl, hL2⟩⟩ := hV
  have hll' : l.length ≤ 1099511627776 := hll
  have hkl' : ks.length ≤ 1099511627776 := hkl
  obtain ⟨W0, hW0⟩ : ∃ W0, (w.alloc (.cells #[.int .i64 7, .string ⟨#[]⟩, .slice la l.length n2, .slice ka ks.length n4, .int .i64 x, .int .i64 y] 48)).alloc (.cells #[.int .i64 7, .int .i64 i, .float .f64 r, .string t, .slice lb l.length n6, .slice kb ks.length n8] 26) = W0 := ⟨_, rfl⟩
  have hW0s : Hid (W0.heap.size = w.heap.size + 2) := Lib.hid (by rw [← hW0]; simp)
  have hW0o : Hid (∀ k, k < w.heap.size → W0.heap[k]? = w.heap[k]?) := Lib.hid (fun k hk => by rw [← hW0, heap_alloc_old _ _ _ (by simp; omega), heap_alloc_old _ _ _ hk])
  have hbox : Hid ((∀ q, W0.cell? ⟨w.heap.size, q, none⟩ = (#[.int .i64 7, .string ⟨#[]⟩, .slice la l.length n2, .slice ka ks.length n4, .int .i64 x, .int .i64 y] : Array Value)[q]?) ∧ ∀ q, W0.cell? ⟨w.heap.size + 1, q, none⟩ = (#[.int .i64 7, .int .i64 i, .float .f64 r, .string t, .slice lb l.length n6, .slice kb ks.length n8] : Array Value)[q]?) := Lib.hid (by
    refine ⟨fun q => ?_, fun q => ?_⟩
    · rw [← hW0]
      exact cells_alloc (heap_alloc_new w _) _ q
    · rw [← hW0]
      have := World.cell?_alloc_new (w.alloc (.cells #[.int .i64 7, .string ⟨#[]⟩, .slice la l.length n2, .slice ka ks.length n4, .int .i64 x, .int .i64 y] 48)) (#[.int .i64 7, .int .i64 i, .float .f64 r, .string t, .slice lb l.length n6, .slice kb ks.length n8] : Array Value) 26 q
      simp only [World.size_alloc] at this
      exact this)
  have hW0k : Hid (Kp (fun _ => False) w W0) := Lib.hid (by rw [← hW0]; exact ((Kp.refl _ w).alloc _).alloc _)
  have hNH := Lib.hid hN1
  have hKH := Lib.hid hN2
  have hLH := Lib.hid hL1
  have hJH := Lib.hid hL2
  have hSlt := Lib.hid hSw
  have hNle := Lib.hid hNw
  have hihH := Lib.hid hih
  have hW0H := Lib.hid hW0
  clear hN1 hN2 hL1 hL2 hSw hNw hih hll hkl hW0
  go_enter Tryz.func22, Tryz.ntmps22
  go_wp2_with fail
  rw [hW0H.out]
  clear hW0H
  go_loopw [110] (fun cc wr => ∃ j : Nat, j ≤ ks.length ∧ cc = .int .i64 j ∧ Hid (Kp (fun _ => False) W0 wr)) (fun cc _ => ks.length - (intOf cc).toNat)
  case atStart => exact ⟨0, Nat.zero_le _, rfl, Lib.hid (Kp.refl _ _)⟩
  case round =>
    obtain ⟨j, hj, rfl, hkp⟩ := hrel
    have m3 : wr.cell? ⟨w.heap.size, 3, none⟩ = some (.slice ka ks.length n4) := (kp_cell hkp.out (by rw [hW0s.out]; omega) 3).trans (hbox.out.1 3)
    have v5 : wr.cell? ⟨w.heap.size + 1, 5, none⟩ = some (.slice kb ks.length n8) := (kp_cell hkp.out (by rw [hW0s.out]; omega) 5).trans (hbox.out.2 5)
    by_cases hlt : j < ks.length
    · obtain ⟨nb2, no2, rfl, hSb, hPN⟩ : ∃ nb2 no2, ka = some ⟨nb2, no2, none⟩ ∧ S nb2 ∧ ∀ j (h : j < ks.length), w.cell? ⟨nb2, no2 + j, none⟩ = some (.string ks[j]) := by
        rcases hKH.out with h | h
        · subst h; simp at hlt
        · exact h
      obtain ⟨b2, o2, rfl, hb2, hPL⟩ : ∃ b2 o2, kb = some ⟨b2, o2, none⟩ ∧ b2 < N ∧ ∀ j (h : j < ks.length), w.cell? ⟨b2, o2 + j, none⟩ = some (.string ks[j]) := by
        rcases hJH.out with h | h
        · subst h; simp at hlt
        · exact h
      have hlw : ∀ k, k < w.heap.size → wr.heap[k]? = w.heap[k]? := fun k hk => (hkp.out.block k (by rw [hW0s.out]; omega) (fun h => h)).trans (hW0o.out k hk)
      obtain ⟨key, hkey⟩ : ∃ key, ks[j] = key := ⟨_, rfl⟩
      have e0 : wr.cell? ⟨nb2, no2 + j, none⟩ = some (.string key) := by rw [World.cell?_of_block (hlw nb2 (hSlt.out _ hSb)), ← hkey]; exact hPN j hlt
      have d0 : wr.cell? ⟨b2, o2 + j, none⟩ = some (.string key) := by rw [World.cell?_of_block (hlw b2 (by have := hNle.out; omega)), ← hkey]; exact hPL j hlt
      clear hkey hPN hPL hlw hSb hb2
      go_wp2_with fail
      go_quiet (fail)
      go_wp2_with fail
      go_roundw
      case rel => exact ⟨j + 1, by omega, by go_num, Lib.hid (hkp.out.drewN _)⟩
      case measure => simp [intOf]; omega
    · have hje : j = ks.length := by omega
      subst hje
      clear m3 v5
      have v4 : wr.cell? ⟨w.heap.size + 1, 4, none⟩ = some (.slice lb l.length n6) := (kp_cell hkp.out (by rw [hW0s.out]; omega) 4).trans (hbox.out.2 4)
      go_wp2_with fail
      have hkk := hkp
      go_loopw [128] (fun cc wr => ∃ j : Nat, j ≤ l.length ∧ cc = .int .i64 j ∧ Hid (Kp (fun _ => False) W0 wr)) (fun cc _ => l.length - (intOf cc).toNat)
      case atStart => exact ⟨0, Nat.zero_le _, rfl, hkk⟩
      case round =>
        obtain ⟨j, hj, rfl, hkp⟩ := hrel
        have m2 : wr.cell? ⟨w.heap.size, 2, none⟩ = some (.slice la l.length n2) := (kp_cell hkp.out (by rw [hW0s.out]; omega) 2).trans (hbox.out.1 2)
        have v4 : wr.cell? ⟨w.heap.size + 1, 4, none⟩ = some (.slice lb l.length n6) := (kp_cell hkp.out (by rw [hW0s.out]; omega) 4).trans (hbox.out.2 4)
        by_cases hlt : j < l.length
        · obtain ⟨nb2, no2, rfl, hSb, hPN⟩ : ∃ nb2 no2, la = some ⟨nb2, no2, none⟩ ∧ S nb2 ∧ PNodes S w l nb2 no2 := by
            rcases hNH.out with h | h
            · subst h; simp at hlt
            · exact h
          obtain ⟨b2, o2, rfl, hPL⟩ : ∃ b2 o2, lb = some ⟨b2, o2, none⟩ ∧ PList N w l b2 o2 := by
            rcases hLH.out with h | h
            · subst h; simp at hlt
            · exact h
          have hlw : ∀ k, k < w.heap.size → wr.heap[k]? = w.heap[k]? := fun k hk => (hkp.out.block k (by rw [hW0s.out]; omega) (fun h => h)).trans (hW0o.out k hk)
          obtain ⟨ls1, kz1, x1, y1, hN1, hc1⟩ := (hPN.at j hlt).cells
          obtain ⟨ls2, kv2, hS2, hb2, hc2⟩ := (hPL.at j hlt).cells
          have hcall := hihH.out j hlt wr.drew ls1 kz1 x1 y1 ls2 kv2 (hN1.step (w' := wr.drew) (fun k hk => hlw k (hSlt.out k hk)) (fun _ h => h)) (hS2.step (w' := wr.drew) (Nat.le_refl _) (fun k hk => hlw k (by have := hNle.out; omega))) (by have h1 := hkp.out.size; have h2 := hNle.out; rw [hW0s.out] at h1; show N ≤ wr.heap.size; omega) (fun k hk => by have h1 := hkp.out.size; have h2 := hSlt.out k hk; rw [hW0s.out] at h1; show k < wr.heap.size; omega)
          have hnb := hSlt.out nb2 hSb
          have hb2w : b2 < w.heap.size := by have := hNle.out; omega
          obtain ⟨z, hz⟩ : ∃ z, l[j] = z := ⟨_, rfl⟩
          rw [hz] at hN1 hS2
          have hc1' : ∀ q (hq : q < 6), wr.cell? ⟨nb2, no2 + 6 * j + q, none⟩ = (aggN z ls1 kz1 x1 y1)[q]? := fun q hq => by
            rw [World.cell?_of_block (hlw nb2 hnb), hc1 q hq, ← hz]
            exact (Array.getElem?_eq_getElem _).symm
          have hc2' : ∀ q (hq : q < 6), wr.cell? ⟨b2, o2 + 6 * j + q, none⟩ = (aggV z ls2 kv2)[q]? := fun q hq => by
            rw [World.cell?_of_block (hlw b2 hb2w), hc2 q hq, ← hz]
            exact (Array.getElem?_eq_getElem _).symm
          rw [hz] at hcall
          obtain ⟨k', i', r', t', l', ks'⟩ := z
          obtain ⟨⟨ao1, q1, rfl, _⟩, ⟨ak1, q2, rfl, _⟩⟩ := hN1
          obtain ⟨⟨ao2, q3, rfl, _⟩, ⟨ak2, q4, rfl, _⟩⟩ := hS2
          simp only [aggN, aggV] at hcall hc1' hc2'
          have e0 : wr.cell? ⟨nb2, no2 + j * 6, none⟩ = some (.int .i64 (nodeK k')) := by rw [show no2 + j * 6 = no2 + 6 * j + 0 by omega]; exact hc1' 0 (by decide)
          have e1 : wr.cell? ⟨nb2, no2 + j * 6 + 1, none⟩ = some (.string (nodeT k' i' r' t')) := by rw [show no2 + j * 6 + 1 = no2 + 6 * j + 1 by omega]; exact hc1' 1 (by decide)
          have e2 : wr.cell? ⟨nb2, no2 + j * 6 + 2, none⟩ = some (.slice ao1 l'.length q1) := by rw [show no2 + j * 6 + 2 = no2 + 6 * j + 2 by omega]; exact hc1' 2 (by decide)
          have e3 : wr.cell? ⟨nb2, no2 + j * 6 + 3, none⟩ = some (.slice ak1 ks'.length q2) := by rw [show no2 + j * 6 + 3 = no2 + 6 * j + 3 by omega]; exact hc1' 3 (by decide)
          have e4 : wr.cell? ⟨nb2, no2 + j * 6 + 4, none⟩ = some (.int .i64 x1) := by rw [show no2 + j * 6 + 4 = no2 + 6 * j + 4 by omega]; exact hc1' 4 (by decide)
          have e5 : wr.cell? ⟨nb2, no2 + j * 6 + 5, none⟩ = some (.int .i64 y1) := by rw [show no2 + j * 6 + 5 = no2 + 6 * j + 5 by omega]; exact hc1' 5 (by decide)
          have d0 : wr.cell? ⟨b2, o2 + j * 6, none⟩ = some (.int .i64 k') := by rw [show o2 + j * 6 = o2 + 6 * j + 0 by omega]; exact hc2' 0 (by decide)
          have d1 : wr.cell? ⟨b2, o2 + j * 6 + 1, none⟩ = some (.int .i64 i') := by rw [show o2 + j * 6 + 1 = o2 + 6 * j + 1 by omega]; exact hc2' 1 (by decide)
          have d2 : wr.cell? ⟨b2, o2 + j * 6 + 2, none⟩ = some (.float .f64 r') := by rw [show o2 + j * 6 + 2 = o2 + 6 * j + 2 by omega]; exact hc2' 2 (by decide)
          have d3 : wr.cell? ⟨b2, o2 + j * 6 + 3, none⟩ = some (.string t') := by rw [show o2 + j * 6 + 3 = o2 + 6 * j + 3 by omega]; exact hc2' 3 (by decide)
          have d4 : wr.cell? ⟨b2, o2 + j * 6 + 4, none⟩ = some (.slice ao2 l'.length q3) := by rw [show o2 + j * 6 + 4 = o2 + 6 * j + 4 by omega]; exact hc2' 4 (by decide)
          have d5 : wr.cell? ⟨b2, o2 + j * 6 + 5, none⟩ = some (.slice ak2 ks'.length q4) := by rw [show o2 + j * 6 + 5 = o2 + 6 * j + 5 by omega]; exact hc2' 5 (by decide)
          have hcallH := Lib.hid hcall
          clear hcall hz hPN hPL hc1 hc2 hc1' hc2' hlw hSb
          generalize nodeK k' = nk at *
          generalize nodeT k' i' r' t' = nt at *
          go_wp2_with fail
          go_still_tail 10, (by kernel_rfl)
          go_wp2_with (go_at_call 22; refine hcallH.out.mono ?_; rintro e w3 ⟨rfl, hk3⟩; have hk3H := Lib.hid (hkp.out.drew.trans hk3); clear hk3)
          go_roundw
          case rel => exact ⟨j + 1, by omega, by go_num, hk3H⟩
          case measure => simp [intOf]; omega
        · have hje : j = l.length := by omega
          subst hje
          go_wp2_with fail
          go_ret
          exact ⟨rfl, hW0k.out.trans hkp.out⟩

/-- A NODE THAT STANDS FOR A VALUE MEANS IT. -/
theorem Means_any (n : Nat) : ∀ v : Val, vsz v ≤ n → Good v → vsz v ≤ lim → ∀ (w : World) (N : Nat) (S : Nat → Prop) (ls kz : Value) (x y : Int) (lv kv : Value), NSubs S w v ls kz → Subs N w v lv kv → N ≤ w.heap.size → (∀ k, S k → k < w.heap.size) →
    Calls Tryz.prog 22 #[.agg (aggN v ls kz x y), .agg (aggV v lv kv)] w (Yes w) := by
  induction n with
  | zero => intro v hv; cases v; simp [vsz] at hv
  | succ n ih =>
    intro v hv hG hlim w N S ls kz x y lv kv hNS hV hNw hSw
    obtain ⟨k, i, r, t, l, ks⟩ := v
    simp only [Good] at hG
    obtain ⟨⟨hk1, hk7⟩, ⟨hi0, hi1⟩, hr, hkl, hl6, hk7', hGL⟩ := hG
    simp only [vsz] at hv hlim
    have hvl := vszL_len l
    have hll : l.length ≤ lim := by omega
    have hih : ∀ j (hj : j < l.length) W ls kz x y lv kv, NSubs S W l[j] ls kz → Subs N W l[j] lv kv → N ≤ W.heap.size → (∀ k, S k → k < W.heap.size) → Calls Tryz.prog 22 #[.agg (aggN l[j] ls kz x y), .agg (aggV l[j] lv kv)] W (Yes W) := fun j hj W ls kz x y lv kv h1 h2 h3 h4 =>
      ih l[j] (by have := vszL_at j hj; omega) (hGL.at j hj) (by have := vszL_at j hj; omega) W N S ls kz x y lv kv h1 h2 h3 h4
    have hcases : k = 1 ∨ k = 2 ∨ k = 3 ∨ k = 4 ∨ k = 5 ∨ k = 6 ∨ k = 7 := by omega
    have hNS0 := hNS
    have hV0 := hV
    obtain ⟨⟨la, n2, rfl, _⟩, ⟨ka, n4, rfl, _⟩⟩ := hNS
    obtain ⟨⟨lb, n6, rfl, _⟩, ⟨kb, n8, rfl, _⟩⟩ := hV
    rcases hcases with rfl | rfl | rfl | rfl | rfl | rfl | rfl
    · exact Means_1
    · by_cases hi : i = 1
      · subst hi
        exact Means_2t
      · have hib : (i == 1) = false := beq_eq_false_iff_ne.2 hi
        have e : nodeT 2 i r t = ⟨#[102, 97, 108, 115, 101]⟩ := by
          show (⟨(boolTxt (i == 1)).toArray⟩ : ByteArray) = _
          rw [hib]
          rfl
        simp only [aggN, aggV]
        rw [e]
        exact Means_2f hib
    · exact Means_3 hi0 hi1
    · exact Means_4 (realT_spec (hr rfl))
    · exact Means_5
    · obtain rfl := hk7' (by decide)
      exact Means_6 hll (by simp) hNS0.1 hNS0.2 hSw hV0 hNw hih
    · exact Means_7 hll (by rw [hkl rfl]; exact hll) hNS0.1 hNS0.2 hSw hV0 hNw hih
end Go.Proofs.YtokmkkkanphihaaGreatRDoor
