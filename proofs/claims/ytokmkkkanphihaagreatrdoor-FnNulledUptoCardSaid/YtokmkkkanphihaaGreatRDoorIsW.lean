/- laws.isWritten: what it says of a value. -/
import Derived.Test.YtokmkkkanphihaaGreatRDoorYPlain
import Derived.BigGuardPart
namespace Go.Proofs.YtokmkkkanphihaaGreatRDoor
open Go.RowKit Go.Sort

mutual
theorem Fin_of : ∀ (d : Nat) (v : Val), PlainV d v → WfV v → FinV v
  | d, .mk k i r t l ks, hp, hw => by
    simp only [PlainV] at hp
    simp only [WfV] at hw
    simp only [FinV]
    exact ⟨⟨hw.2.2.1, hp.2.2.2.1⟩, FinL_of (d - 1) l hp.2.2.2.2.2.2.2.2.2 hw.2.2.2.2.2.2.2⟩
theorem FinL_of : ∀ (d : Nat) (l : List Val), PlainL d l → WfL l → FinL l
  | _, [], _, _ => by simp [FinL]
  | d, v :: vs, hp, hw => by
    simp only [PlainL] at hp
    simp only [WfL] at hw
    simp only [FinL]
    exact ⟨Fin_of d v hp.1 hw.1, FinL_of d vs hp.2 hw.2⟩
end

def kindV : Val → Int
  | .mk k _ _ _ _ _ => k

/-- What isWritten finds. -/
def WrittenV (v : Val) : Prop := 2 ≤ kindV v ∧ PlainV 12 v ∧ ShortV v

set_option maxHeartbeats 3200000 in
set_option maxRecDepth 100000 in
theorem isWritten_any {v : Val} {w : World} {N : Nat} {ls kv : Value} (hS : Subs N w v ls kv) (hN : N ≤ w.heap.size) (hW : WfV v) (hlim : vsz v ≤ lim) :
    Calls Tryz.prog 8 #[.agg (aggV v ls kv)] w (Says (WrittenV v) w) := by
  obtain ⟨k, i, r, t, l, ks⟩ := v
  have hP : ∀ W, (∀ q, q < N → W.heap[q]? = w.heap[q]?) → N ≤ W.heap.size → Calls Tryz.prog 15 #[.agg (aggV (.mk k i r t l ks) ls kv), .int .i64 12] W (Says (PlainV 12 (.mk k i r t l ks)) W) := fun W h1 h2 =>
    IsPlain_any 12 _ W N ls kv (by omega) (hS.step (Nat.le_refl _) h1) h2 hW
  have hA : ∀ W, (∀ q, q < N → W.heap[q]? = w.heap[q]?) → N ≤ W.heap.size → PlainV 12 (.mk k i r t l ks) → Calls Tryz.prog 16 #[.agg (aggV (.mk k i r t l ks) ls kv)] W (Says (ShortV (.mk k i r t l ks)) W) := fun W h1 h2 h3 =>
    AreShort_any _ _ W N ls kv (Nat.le_refl _) (hS.step (Nat.le_refl _) h1) h2 (Fin_of 12 _ h3 hW) hlim
  obtain ⟨⟨ao, c, rfl, _⟩, ⟨ako, ck, rfl, _⟩⟩ := hS
  simp only [aggV] at hP hA ⊢
  have hPH := Lib.hid hP
  have hAH := Lib.hid hA
  have hNH := Lib.hid hN
  clear hP hA hW hlim
  by_cases hk : 2 ≤ k
  · go_enter Tryz.func8, Tryz.ntmps8
    go_wp2_with (first
      | (go_at_call 15; refine (hPH.out _ (fun q hq => heap_alloc_old w _ q (by have := hNH.out; omega)) (by have := hNH.out; simp; omega)).mono ?_; rintro ev w2 ⟨bz, rfl, hbz, hk2⟩; have hbzH := Lib.hid hbz; have hk2H := Lib.hid hk2; clear hbz hk2; have m0 : w2.cell? ⟨w.heap.size, 0, none⟩ = some (.int .i64 k) := (by rw [kp_cell hk2H.out (by simp), World.cell?_alloc_new]; rfl); have m1 : w2.cell? ⟨w.heap.size, 1, none⟩ = some (.int .i64 i) := (by rw [kp_cell hk2H.out (by simp), World.cell?_alloc_new]; rfl); have m2 : w2.cell? ⟨w.heap.size, 2, none⟩ = some (.float .f64 r) := (by rw [kp_cell hk2H.out (by simp), World.cell?_alloc_new]; rfl); have m3 : w2.cell? ⟨w.heap.size, 3, none⟩ = some (.string t) := (by rw [kp_cell hk2H.out (by simp), World.cell?_alloc_new]; rfl); have m4 : w2.cell? ⟨w.heap.size, 4, none⟩ = some (.slice ao l.length c) := (by rw [kp_cell hk2H.out (by simp), World.cell?_alloc_new]; rfl); have m5 : w2.cell? ⟨w.heap.size, 5, none⟩ = some (.slice ako ks.length ck) := (by rw [kp_cell hk2H.out (by simp), World.cell?_alloc_new]; rfl))
      | (go_at_call 16; refine (hAH.out _ (fun q hq => (kp_low hk2H.out (by simp; have := hNH.out; omega) q hq).trans (heap_alloc_old w _ q (by have := hNH.out; omega))) (by have := hNH.out; have := hk2H.out.size; simp at this; omega) (hbzH.out (by assumption))).mono ?_; rintro ev w3 ⟨bs, rfl, hbs, hk3⟩; have hbsH := Lib.hid hbs; have hk3H := Lib.hid hk3; clear hbs hk3)
      )
    · have hbt : bz = true := by assumption
      go_ret
      exact ⟨bs, rfl, (fun h => ⟨hk, hbzH.out hbt, hbsH.out h⟩), (((Kp.refl _ w).alloc _).trans hk2H.out).trans hk3H.out⟩
    · go_ret
      exact ⟨false, rfl, (fun h => by cases h), ((Kp.refl _ w).alloc _).trans hk2H.out⟩
  · go_enter Tryz.func8, Tryz.ntmps8
    go_wp2_with fail
    go_ret
    exact ⟨false, rfl, (fun h => by cases h), (Kp.refl _ w).alloc _⟩
end Go.Proofs.YtokmkkkanphihaaGreatRDoor
