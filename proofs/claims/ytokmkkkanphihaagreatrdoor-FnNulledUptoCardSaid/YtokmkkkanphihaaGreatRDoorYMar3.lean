/- gojay.MarshalJSONArray, MarshalJSONObject and Marshal: the row of bytes that they hand back. -/
import Derived.Test.YtokmkkkanphihaaGreatRDoorMar2
import Derived.Deep.RegionHeld3
namespace Go.Proofs.YtokmkkkanphihaaGreatRDoor
open Go.RowKit Go.Sort

/-- What a marshaller hands back: the row of the bytes, from block N on; nothing that lay before has turned. -/
def Out (N : Nat) (w0 : World) (out : List UInt8) (ev : Ending) (w' : World) : Prop :=
  ∃ v, ev = .returned (.tuple #[v, .nilIface]) ∧ w'.ownsRow N 5 1 v out.length (bvs out) ∧ Kp (fun _ => False) w0 w'

/-- The world in which an encoder is new, and a variable holds its address. -/
def encW (w : World) : World := (w.alloc (.cells #[.slice none 0 0, .int .u8 0, .nilIface, .nilIface, .bool false, .slice none 0 0] 70)).alloc (.cells #[.pointer (some ⟨w.heap.size, 0, none⟩)] 57)

theorem encW_size (w : World) : (encW w).heap.size = w.heap.size + 2 := by unfold encW; simp

theorem encW_low (w : World) : ∀ k, k < w.heap.size → (encW w).heap[k]? = w.heap[k]? := fun k hk => by
  unfold encW
  rw [heap_alloc_old _ _ _ (by simp; omega), heap_alloc_old _ _ _ hk]

theorem ownsRow_nil (w : World) (N : Nat) : w.ownsRow N 5 1 (.slice none 0 0) 0 (bvs []) := ⟨rfl, .inl ⟨rfl, rfl⟩⟩

theorem encW_enc (w : World) : EncF (encW w) none w.heap.size w.heap.size (st0 .nilIface) (encW w) := by
  refine EncF.refl ⟨.slice none 0 0, ?_, ⟨ownsRow_nil _ _, rfl⟩, by simp, Nat.le_refl _⟩
  unfold encW
  rw [heap_alloc_old _ _ _ (by simp)]
  exact heap_alloc_new w _

theorem encW_var (w : World) : (encW w).cell? ⟨w.heap.size + 1, 0, none⟩ = some (.pointer (some ⟨w.heap.size, 0, none⟩)) := by
  unfold encW
  have : w.heap.size + 1 = (w.alloc (.cells #[.slice none 0 0, .int .u8 0, .nilIface, .nilIface, .bool false, .slice none 0 0] 70)).heap.size := by simp
  rw [this, World.cell?_alloc_new]
  rfl

theorem encW_base {w : World} (h : Tabs w.heap.size w) : Base (encW w) none w.heap.size := ⟨h.step (encW_low w) (by rw [encW_size]; omega), fun _ h => by cases h⟩

theorem EncF.var {w wr : World} {s : St} (h : EncF (encW w) none w.heap.size w.heap.size s wr) : wr.cell? ⟨w.heap.size + 1, 0, none⟩ = some (.pointer (some ⟨w.heap.size, 0, none⟩)) := by
  rw [h.keep (by rw [encW_size]; omega) (by omega) (by simp)]
  exact encW_var w

theorem out_of {w w5 w6 : World} {s : St} {v : Value} (hE : EncF (encW w) none w.heap.size w.heap.size s w5) (c0 : w5.cell? ⟨w.heap.size, 0, none⟩ = some v) (hK : Kp (fun k => k = w.heap.size) w5 w6) :
    w6.ownsRow w.heap.size 5 1 v s.out.length (bvs s.out) ∧ Kp (fun _ => False) w w6 := by
  obtain ⟨bb, hE, hF⟩ := hE
  obtain ⟨v', hb, hc0, _⟩ := hE.cells
  rw [c0] at hc0
  injection hc0 with hc0
  subst hc0
  obtain ⟨h2, h3⟩ := hb
  obtain ⟨_, _, _, h4, _⟩ := hE
  have hs := own_lt h2
  refine ⟨⟨h2.1, ?_⟩, ?_⟩
  · rcases h2.2 with a | ⟨g, cap, cur, b1, b2, b3, b4⟩
    · exact .inl a
    · refine .inr ⟨g, cap, cur, b1, b2, ?_, b4⟩
      have hg : v.ownBlock = some g := by rw [b1]; rfl
      rw [hK.block g (hs g hg).2 ?_]
      · exact b3
      · intro hx
        apply h4
        rw [← h3, hg, hx]
  · have h1 : Kp (fun _ => False) w (encW w) := ⟨rfl, rfl, rfl, by rw [encW_size]; omega, fun k hk _ => encW_low w k hk⟩
    refine ⟨hK.os.trans (hF.os.trans h1.os), hK.tape.trans (hF.tape.trans h1.tape), hK.output.trans (hF.output.trans h1.output), Nat.le_trans h1.size (Nat.le_trans hF.size hK.size), fun k hk _ => ?_⟩
    have hk1 : k < (encW w).heap.size := by rw [encW_size]; omega
    rw [hK.block k (Nat.lt_of_lt_of_le hk1 hF.size) (by omega), hF.block k hk1 (by omega) (by simp)]
    exact encW_low w k hk

theorem assertA (x : Value) (w : World) : (Instr.typeAssert (.iface 44 x) 63 63 false).run Tryz.prog w = .ok (.iface 44 x) w := by kernel_rfl

set_option maxHeartbeats 1600000 in
set_option maxRecDepth 100000 in
theorem MarshalJSONArray_any {w : World} {b o : Nat} {way : Int} {T : List UInt8} {K : Nat} (hT : Tabs w.heap.size w) (hK : K + 1000 ≤ lim)
    (hW : Writes 145 (.agg #[.pointer (some ⟨b, o, none⟩), .int .i64 way]) (encW w) none w.heap.size w.heap.size 91 T K) :
    Calls Tryz.prog 18 #[.iface 44 (.agg #[.pointer (some ⟨b, o, none⟩), .int .i64 way])] w (Out w.heap.size w ([91] ++ T ++ [93])) := by
  have hE0H := Lib.hid (encW_enc w)
  have hBH := Lib.hid (encW_base hT)
  have hWH := Lib.hid hW
  have hKH := Lib.hid hK
  have hTK := hW.1
  have hmf : ∀ (fn : Fn) (first cap : Array Value) (w : World), (Instr.makeFunc fn first cap).run Tryz.prog w = .ok (.func fn first cap) w := fun _ _ _ _ => rfl
  have hta := assertA
  clear hT hW hK
  go_enter_defers Tryz.func18, Tryz.ntmps18
  go_wp2_with (first
    | (go_at_call 29; refine (BorrowEncoder_any _).mono ?_; rintro ev w1 ⟨rfl, rfl⟩)
    | (go_at_call 30; refine (grow_at _ 512 (by omega) hE0H.out (by unfold lim; omega) (by simp [st0])).mono ?_; rintro ev w2 ⟨rfl, hE1⟩; have hE1H := Lib.hid hE1; clear hE1; have p1 := hE1H.out.var)
    | (go_at_call 31; refine (writeByte_any 91 hE1H.out (by simp [st0, lim])).mono ?_; rintro ev w3 ⟨rfl, hE2⟩; have hE2H := Lib.hid hE2; clear hE2 hE1H; have p2 := hE2H.out.var)
    )
  go_region_held3 (fun w' => w'.cell? ⟨w.heap.size + 1, 0, none⟩ = some (.pointer (some ⟨w.heap.size, 0, none⟩))) (first | exact p3 | go_keep) (first
    | (go_at_call 145; refine (hWH.out.2 _ ((st0 .nilIface).add [91]) (by first | exact hE2H.out | exact hE2H.out.drew | exact hE2H.out.drewN _) ⟨[], rfl⟩ rfl rfl (by have := hKH.out; unfold lim at *; simp [st0]; omega)).mono ?_; rintro ev w4 ⟨rfl, hE3⟩; have hE3H := Lib.hid hE3; clear hE3; have p3 := hE3H.out.var)
    )
  all_goals
    go_wp2_with (first
      | (go_at_call 31; refine (writeByte_any 93 hE3H.out (by have := hKH.out; unfold lim at *; simp [st0]; omega)).mono ?_; rintro ev w5 ⟨rfl, hE4⟩; have hE4H := Lib.hid hE4; clear hE4 hE3H; have p4 := hE4H.out.var; obtain ⟨bbX, hEX, hFX⟩ := hE4H.out; obtain ⟨vX, _, c0X, c1X, _, _, _, _, hfzX, _⟩ := hEX.cells; have hfzH := Lib.hid hfzX; clear hFX hfzX hEX)
      )
    refine leaves_cons (f := 32) (args := #[.pointer (some ⟨w.heap.size + 1, 0, none⟩)]) (by simp) (by simp [go_sem]) ?_
    refine (closeA p4 c0X c1X hfzH.out (by omega)).mono ?_
    rintro ev u' w6 ⟨rfl, rfl, hKp⟩
    obtain ⟨o1, o2⟩ := out_of hE4H.out c0X hKp
    refine ⟨_, results_tmp2 rfl _ _ _, vX, rfl, ?_, o2⟩
    simpa [St.add, st0] using o1

set_option maxHeartbeats 1600000 in
set_option maxRecDepth 100000 in
theorem MarshalJSONObject_any {w : World} {b o : Nat} {way : Int} {T : List UInt8} (hT : Tabs w.heap.size w)
    (hC : ∀ wr, EncF (encW w) none w.heap.size w.heap.size (st0 .nilIface) wr → Calls Tryz.prog 35 #[.pointer (some ⟨w.heap.size, 0, none⟩), .iface 44 (.agg #[.pointer (some ⟨b, o, none⟩), .int .i64 way])] wr (EncV (encW w) none w.heap.size w.heap.size ((st0 .nilIface).add T))) :
    Calls Tryz.prog 19 #[.iface 44 (.agg #[.pointer (some ⟨b, o, none⟩), .int .i64 way])] w (Out w.heap.size w T) := by
  have hE0H := Lib.hid (encW_enc w)
  have hBH := Lib.hid (encW_base hT)
  have hCH := Lib.hid hC
  have hmf : ∀ (fn : Fn) (first cap : Array Value) (w : World), (Instr.makeFunc fn first cap).run Tryz.prog w = .ok (.func fn first cap) w := fun _ _ _ _ => rfl
  clear hT hC
  go_enter_defers Tryz.func19, Tryz.ntmps19
  go_wp2_with (first
    | (go_at_call 29; refine (BorrowEncoder_any _).mono ?_; rintro ev w1 ⟨rfl, rfl⟩)
    | (go_at_call 30; refine (grow_at _ 512 (by omega) hE0H.out (by unfold lim; omega) (by simp [st0])).mono ?_; rintro ev w2 ⟨rfl, hE1⟩; have hE1H := Lib.hid hE1; clear hE1; have p1 := hE1H.out.var)
    | (go_at_call 35; refine (hCH.out _ hE1H.out).mono ?_; rintro ev w3 ⟨vX, rfl, hE4, c0X⟩; have hE4H := Lib.hid hE4; clear hE4 hE1H; have p4 := hE4H.out.var; obtain ⟨bbX, hEX, hFX⟩ := hE4H.out; obtain ⟨_, _, _, c1X, _, _, _, _, hfzX, _⟩ := hEX.cells; have hfzH := Lib.hid hfzX; clear hFX hfzX hEX)
    )
  refine leaves_cons (f := 34) (args := #[.pointer (some ⟨w.heap.size + 1, 0, none⟩)]) (by simp) (by simp [go_sem]) ?_
  refine (closeO p4 c0X c1X hfzH.out (by omega)).mono ?_
  rintro ev u' w6 ⟨rfl, rfl, hKp⟩
  obtain ⟨o1, o2⟩ := out_of hE4H.out c0X hKp
  refine ⟨_, results_tmp2 rfl _ _ _, vX, rfl, ?_, o2⟩
  simpa [St.add, st0] using o1

end Go.Proofs.YtokmkkkanphihaaGreatRDoor

/- gojay.Marshal of a plain value: the row of bytes that it hands back (written by genMa.py). -/
namespace Go.Proofs.YtokmkkkanphihaaGreatRDoor
open Go.RowKit Go.Sort

theorem Tabs.up {N : Nat} {w : World} (h : Tabs N w) (o : Obj) : Tabs (w.alloc o).heap.size (w.alloc o) := by
  have h1 := h.step (fun k hk => heap_alloc_old w o k (Nat.lt_of_lt_of_le hk h.size)) (by simp)
  exact ⟨h1.pow, h1.tab, Nat.lt_of_lt_of_le h1.g1 h1.size, Nat.lt_of_lt_of_le h1.g2 h1.size, Nat.le_refl _⟩

end Go.Proofs.YtokmkkkanphihaaGreatRDoor
