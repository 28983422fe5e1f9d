/- gojay.Marshal of a plain value: the row of bytes that it hands back (written by genMa.py). -/
import Derived.Test.YtokmkkkanphihaaGreatRDoorMar3
namespace Go.Proofs.YtokmkkkanphihaaGreatRDoor
open Go.RowKit Go.Sort

theorem least_some {l : List String} (h : l ≠ []) : ∃ m, Instr.least l = some m := by
  unfold Instr.least
  cases l with
  | nil => exact absurd rfl h
  | cons a l => simp
theorem part_some {l : List String} (p : String → Bool) (f : String → String) (h : l ≠ []) : ∃ m, (Instr.least (l.filter (not ∘ p)) <|> Instr.least ((l.filter p).map f)) = some m := by
  by_cases h2 : l.filter (not ∘ p) = []
  · have h1 : l.filter p ≠ [] := by
      intro h1
      apply h
      rw [List.filter_eq_nil_iff] at h1 h2
      cases l with
      | nil => rfl
      | cons a l =>
        have a1 := h1 a (by simp)
        have a2 := h2 a (by simp)
        simp only [Function.comp_apply, Bool.not_eq_true, Bool.not_eq_false'] at a1 a2
        rw [a1] at a2
        cases a2
    rw [h2]
    obtain ⟨m, hm⟩ := least_some (l := (l.filter p).map f) (by simpa using h1)
    refine ⟨m, ?_⟩
    rw [hm]
    unfold Instr.least
    rfl
  · obtain ⟨m, hm⟩ := least_some h2
    exact ⟨m, by rw [hm]; rfl⟩
theorem missing_some {want : Array (String × TypeId)} {got : Array Method} (h : ((want.toList.filter fun (name, sig) => !got.any fun m => m.name == name && m.sig == sig).map (·.1)) ≠ []) : ∃ m, Instr.missingMethod want got = some m := by
  unfold Instr.missingMethod
  generalize ((want.toList.filter fun (name, sig) => !got.any fun m => m.name == name && m.sig == sig).map (·.1)) = l at h
  simp only [List.partition_eq_filter_filter]
  exact part_some _ _ h
theorem ta_none {T A : TypeId} {x : Value} {ms : Array (String × TypeId)} {i : TypeInfo} {w : World} {P : Program} (hu : P.underlying A = some (.interface ms)) (hi : P.info? T = some i) (h : ((ms.toList.filter fun (name, sig) => !i.methods.any fun m => m.name == name && m.sig == sig).map (·.1)) ≠ [])
    (hz : ∀ w, (zeroValue A).run P w = .ok .nilIface w) : (Instr.typeAssert (.iface T x) 20 A true).run P w = .ok (.tuple #[.nilIface, .bool false]) w := by
  obtain ⟨m, hm⟩ := missing_some h
  simp [Instr.typeAssert, go_sem, run_underlying hu, typeInfo, hi, hm, hz]

theorem encM_size (w : World) (x : Value) : (encM w x).heap.size = w.heap.size + 3 := by rw [encM_eq, encW_size]; simp

theorem EncF.boxV {w wr : World} {s : St} {x : Value} (h : EncF (encM w x) none (w.heap.size + 1) (w.heap.size + 1) s wr) : wr.cell? ⟨w.heap.size, 0, none⟩ = some x := by
  have hs : (w.alloc (.cells #[x] 20)).heap.size = w.heap.size + 1 := by simp
  rw [h.keep (by rw [encM_size]; omega) (by omega) (by simp)]
  rw [encM_eq, World.cell?_of_block (encW_low _ w.heap.size (by omega)), World.cell?_alloc_new]
  rfl

theorem EncF.varM {w wr : World} {s : St} {x : Value} (h : EncF (encM w x) none (w.heap.size + 1) (w.heap.size + 1) s wr) : wr.cell? ⟨w.heap.size + 2, 0, none⟩ = some (.pointer (some ⟨w.heap.size + 1, 0, none⟩)) := by
  have hs : (w.alloc (.cells #[x] 20)).heap.size = w.heap.size + 1 := by simp
  rw [h.keep (by rw [encM_size]; omega) (by omega) (by simp)]
  have := encW_var (w.alloc (.cells #[x] 20))
  rw [hs, ← encM_eq] at this
  exact this

theorem encM_enc (w : World) (x : Value) : EncF (encM w x) none (w.heap.size + 1) (w.heap.size + 1) (st0 .nilIface) (encM w x) := by
  have := encW_enc (w.alloc (.cells #[x] 20))
  have hs : (w.alloc (.cells #[x] 20)).heap.size = w.heap.size + 1 := by simp
  rw [hs, ← encM_eq] at this
  exact this

theorem Tabs.up {N : Nat} {w : World} (h : Tabs N w) (o : Obj) : Tabs (w.alloc o).heap.size (w.alloc o) := by
  have h1 := h.step (fun k hk => heap_alloc_old w o k (Nat.lt_of_lt_of_le hk h.size)) (by simp)
  exact ⟨h1.pow, h1.tab, Nat.lt_of_lt_of_le h1.g1 h1.size, Nat.lt_of_lt_of_le h1.g2 h1.size, Nat.le_refl _⟩

theorem encM_base {w : World} {x : Value} (h : Tabs w.heap.size w) : Base (encM w x) none (w.heap.size + 1) := by
  have h1 := h.up (.cells #[x] 20)
  have := encW_base h1
  have hs : (w.alloc (.cells #[x] 20)).heap.size = w.heap.size + 1 := by simp
  rw [hs, ← encM_eq] at this
  exact this

theorem ownsRow_base {w : World} {N M n : Nat} {v : Value} {xs : List Value} (h : w.ownsRow N 5 1 v n xs) (hm : M ≤ N) : w.ownsRow M 5 1 v n xs := by
  refine ⟨h.1, ?_⟩
  rcases h.2 with a | ⟨g, cap, cur, b1, b2, b3⟩
  · exact .inl a
  · exact .inr ⟨g, cap, cur, b1, Nat.le_trans hm b2, b3⟩

theorem outM_of {w w5 w6 : World} {x : Value} {s : St} {v : Value} (hE : EncF (encM w x) none (w.heap.size + 1) (w.heap.size + 1) s w5) (c0 : w5.cell? ⟨w.heap.size + 1, 0, none⟩ = some v) (hK : Kp (fun k => k = w.heap.size + 1) w5 w6) :
    w6.ownsRow w.heap.size 5 1 v s.out.length (bvs s.out) ∧ Kp (fun _ => False) w w6 := by
  have hs : (w.alloc (.cells #[x] 20)).heap.size = w.heap.size + 1 := by simp
  have := out_of (w := w.alloc (.cells #[x] 20)) (w5 := w5) (w6 := w6) (s := s) (v := v)
  rw [hs, ← encM_eq] at this
  obtain ⟨h1, h2⟩ := this hE c0 hK
  exact ⟨ownsRow_base h1 (by omega), ((Kp.refl _ w).alloc _).trans h2⟩

theorem ta_Bool_0 (x : Value) (w : World) : (Instr.typeAssert (.iface 4 x) 20 72 true).run Tryz.prog w = .ok (.tuple #[.nilIface, .bool false]) w := ta_none (ms := #[("IsNil", 108), ("MarshalJSONObject", 66)]) (i := Tryz.t4) (by kernel_rfl) (by kernel_rfl) (by decide +kernel) (fun w => by kernel_rfl)

theorem ta_Bool_1 (x : Value) (w : World) : (Instr.typeAssert (.iface 4 x) 20 63 true).run Tryz.prog w = .ok (.tuple #[.nilIface, .bool false]) w := ta_none (ms := #[("IsNil", 108), ("MarshalJSONArray", 66)]) (i := Tryz.t4) (by kernel_rfl) (by kernel_rfl) (by decide +kernel) (fun w => by kernel_rfl)

theorem ta_Bool_2 (x : Value) (w : World) : (Instr.typeAssert (.iface 4 x) 20 9 true).run Tryz.prog w = .ok (.tuple #[.string ⟨#[]⟩, .bool false]) w := by kernel_rfl

theorem ta_Bool_3 (x : Value) (w : World) : (Instr.typeAssert (.iface 4 x) 20 4 true).run Tryz.prog w = .ok (.tuple #[x, .bool true]) w := by kernel_rfl

set_option maxHeartbeats 3200000 in
set_option maxRecDepth 100000 in
theorem marshal2_Bool {w wr : World} {s s2 : St} (v : Bool) (hE : EncF (encM w (.iface 4 (.bool v))) none (w.heap.size + 1) (w.heap.size + 1) s wr)
    (hC : Calls Tryz.prog 53 #[.pointer (some ⟨w.heap.size + 1, 0, none⟩), .bool v] wr (EncV (encM w (.iface 4 (.bool v))) none (w.heap.size + 1) (w.heap.size + 1) s2)) :
    Calls Tryz.prog 50 #[.pointer (some ⟨w.heap.size, 0, none⟩), .pointer (some ⟨w.heap.size + 2, 0, none⟩)] wr (EncV (encM w (.iface 4 (.bool v))) none (w.heap.size + 1) (w.heap.size + 1) s2) := by
  have hx := hE.boxV
  have hp := hE.varM
  have hCH := Lib.hid hC
  have q0 := ta_Bool_0
  have q1 := ta_Bool_1
  have q2 := ta_Bool_2
  have q3 := ta_Bool_3
  clear hE hC
  go_enter Tryz.func50, Tryz.ntmps50
  go_wp2_with (go_at_call 53; refine hCH.out.mono ?_; rintro ev w3 ⟨vX, rfl, hE4, c0X⟩; have hE4H := Lib.hid hE4; clear hE4)
  go_ret2
  exact ⟨vX, rfl, hE4H.out, c0X⟩

set_option maxHeartbeats 3200000 in
set_option maxRecDepth 100000 in
theorem marshal_Bool {w : World} {T : List UInt8} (v : Bool)
    (hC : ∀ wr, EncF (encM w (.iface 4 (.bool v))) none (w.heap.size + 1) (w.heap.size + 1) (st0 .nilIface) wr → Calls Tryz.prog 53 #[.pointer (some ⟨w.heap.size + 1, 0, none⟩), .bool v] wr (EncV (encM w (.iface 4 (.bool v))) none (w.heap.size + 1) (w.heap.size + 1) ((st0 .nilIface).add T))) :
    Calls Tryz.prog 28 #[.iface 4 (.bool v), .bool false] w (Out w.heap.size w T) := by
  have hE0H := Lib.hid (encM_enc w (.iface 4 (.bool v)))
  have hCH := Lib.hid hC
  have hmf : ∀ (fn : Fn) (first cap : Array Value) (w : World), (Instr.makeFunc fn first cap).run Tryz.prog w = .ok (.func fn first cap) w := fun _ _ _ _ => rfl
  clear hC
  go_enter_defers Tryz.func28, Tryz.ntmps28
  go_wp2_with (first
    | (go_at_call 29; refine (BorrowEncoder_any _).mono ?_; rintro ev w1 ⟨rfl, rfl⟩)
    | (go_at_call 50; refine (marshal2_Bool v hE0H.out (hCH.out _ hE0H.out)).mono ?_; rintro ev w3 ⟨vX, rfl, hE4, c0X⟩; have hE4H := Lib.hid hE4; clear hE4; have p4 := hE4H.out.varM; obtain ⟨bbX, hEX, hFX⟩ := hE4H.out; obtain ⟨_, _, _, c1X, _, _, _, _, hfzX, _⟩ := hEX.cells; have hfzH := Lib.hid hfzX; clear hFX hfzX hEX)
    )
  refine leaves_cons (f := 49) (args := #[.pointer (some ⟨w.heap.size + 2, 0, none⟩)]) (by simp) (by simp [go_sem]) ?_
  refine (closeM p4 c0X c1X hfzH.out (by omega)).mono ?_
  rintro ev u' w6 ⟨rfl, rfl, hKp⟩
  obtain ⟨o1, o2⟩ := outM_of hE4H.out c0X hKp
  refine ⟨_, results_tmp2 rfl _ _ _, vX, rfl, ?_, o2⟩
  simpa [St.add, st0] using o1

set_option maxHeartbeats 800000 in
theorem Marshal_Bool {w : World} {T : List UInt8} (v : Bool)
    (hC : ∀ wr, EncF (encM w (.iface 4 (.bool v))) none (w.heap.size + 1) (w.heap.size + 1) (st0 .nilIface) wr → Calls Tryz.prog 53 #[.pointer (some ⟨w.heap.size + 1, 0, none⟩), .bool v] wr (EncV (encM w (.iface 4 (.bool v))) none (w.heap.size + 1) (w.heap.size + 1) ((st0 .nilIface).add T))) :
    Calls Tryz.prog 17 #[.iface 4 (.bool v)] w (Out w.heap.size w T) := by
  have hCH := Lib.hid (marshal_Bool v hC)
  clear hC
  go_enter Tryz.func17, Tryz.ntmps17
  go_wp2_with (go_at_call 28; refine hCH.out.mono ?_; rintro ev w3 ⟨vX, rfl, ho, hk⟩; have hoH := Lib.hid ho; have hkH := Lib.hid hk; clear ho hk)
  go_ret2
  exact ⟨vX, rfl, hoH.out, hkH.out⟩

theorem ta_Int64_0 (x : Value) (w : World) : (Instr.typeAssert (.iface 2 x) 20 72 true).run Tryz.prog w = .ok (.tuple #[.nilIface, .bool false]) w := ta_none (ms := #[("IsNil", 108), ("MarshalJSONObject", 66)]) (i := Tryz.t2) (by kernel_rfl) (by kernel_rfl) (by decide +kernel) (fun w => by kernel_rfl)

theorem ta_Int64_1 (x : Value) (w : World) : (Instr.typeAssert (.iface 2 x) 20 63 true).run Tryz.prog w = .ok (.tuple #[.nilIface, .bool false]) w := ta_none (ms := #[("IsNil", 108), ("MarshalJSONArray", 66)]) (i := Tryz.t2) (by kernel_rfl) (by kernel_rfl) (by decide +kernel) (fun w => by kernel_rfl)

theorem ta_Int64_2 (x : Value) (w : World) : (Instr.typeAssert (.iface 2 x) 20 9 true).run Tryz.prog w = .ok (.tuple #[.string ⟨#[]⟩, .bool false]) w := by kernel_rfl

theorem ta_Int64_3 (x : Value) (w : World) : (Instr.typeAssert (.iface 2 x) 20 4 true).run Tryz.prog w = .ok (.tuple #[.bool false, .bool false]) w := by kernel_rfl

theorem ta_Int64_4 (x : Value) (w : World) : (Instr.typeAssert (.iface 2 x) 20 3 true).run Tryz.prog w = .ok (.tuple #[.int .i64 0, .bool false]) w := by kernel_rfl

theorem ta_Int64_5 (x : Value) (w : World) : (Instr.typeAssert (.iface 2 x) 20 2 true).run Tryz.prog w = .ok (.tuple #[x, .bool true]) w := by kernel_rfl

set_option maxHeartbeats 3200000 in
set_option maxRecDepth 100000 in
theorem marshal2_Int64 {w wr : World} {s s2 : St} (v : Int) (hE : EncF (encM w (.iface 2 (.int .i64 v))) none (w.heap.size + 1) (w.heap.size + 1) s wr)
    (hC : Calls Tryz.prog 55 #[.pointer (some ⟨w.heap.size + 1, 0, none⟩), .int .i64 v] wr (EncV (encM w (.iface 2 (.int .i64 v))) none (w.heap.size + 1) (w.heap.size + 1) s2)) :
    Calls Tryz.prog 50 #[.pointer (some ⟨w.heap.size, 0, none⟩), .pointer (some ⟨w.heap.size + 2, 0, none⟩)] wr (EncV (encM w (.iface 2 (.int .i64 v))) none (w.heap.size + 1) (w.heap.size + 1) s2) := by
  have hx := hE.boxV
  have hp := hE.varM
  have hCH := Lib.hid hC
  have q0 := ta_Int64_0
  have q1 := ta_Int64_1
  have q2 := ta_Int64_2
  have q3 := ta_Int64_3
  have q4 := ta_Int64_4
  have q5 := ta_Int64_5
  clear hE hC
  go_enter Tryz.func50, Tryz.ntmps50
  go_wp2_with (go_at_call 55; refine hCH.out.mono ?_; rintro ev w3 ⟨vX, rfl, hE4, c0X⟩; have hE4H := Lib.hid hE4; clear hE4)
  go_ret2
  exact ⟨vX, rfl, hE4H.out, c0X⟩

set_option maxHeartbeats 3200000 in
set_option maxRecDepth 100000 in
theorem marshal_Int64 {w : World} {T : List UInt8} (v : Int)
    (hC : ∀ wr, EncF (encM w (.iface 2 (.int .i64 v))) none (w.heap.size + 1) (w.heap.size + 1) (st0 .nilIface) wr → Calls Tryz.prog 55 #[.pointer (some ⟨w.heap.size + 1, 0, none⟩), .int .i64 v] wr (EncV (encM w (.iface 2 (.int .i64 v))) none (w.heap.size + 1) (w.heap.size + 1) ((st0 .nilIface).add T))) :
    Calls Tryz.prog 28 #[.iface 2 (.int .i64 v), .bool false] w (Out w.heap.size w T) := by
  have hE0H := Lib.hid (encM_enc w (.iface 2 (.int .i64 v)))
  have hCH := Lib.hid hC
  have hmf : ∀ (fn : Fn) (first cap : Array Value) (w : World), (Instr.makeFunc fn first cap).run Tryz.prog w = .ok (.func fn first cap) w := fun _ _ _ _ => rfl
  clear hC
  go_enter_defers Tryz.func28, Tryz.ntmps28
  go_wp2_with (first
    | (go_at_call 29; refine (BorrowEncoder_any _).mono ?_; rintro ev w1 ⟨rfl, rfl⟩)
    | (go_at_call 50; refine (marshal2_Int64 v hE0H.out (hCH.out _ hE0H.out)).mono ?_; rintro ev w3 ⟨vX, rfl, hE4, c0X⟩; have hE4H := Lib.hid hE4; clear hE4; have p4 := hE4H.out.varM; obtain ⟨bbX, hEX, hFX⟩ := hE4H.out; obtain ⟨_, _, _, c1X, _, _, _, _, hfzX, _⟩ := hEX.cells; have hfzH := Lib.hid hfzX; clear hFX hfzX hEX)
    )
  refine leaves_cons (f := 49) (args := #[.pointer (some ⟨w.heap.size + 2, 0, none⟩)]) (by simp) (by simp [go_sem]) ?_
  refine (closeM p4 c0X c1X hfzH.out (by omega)).mono ?_
  rintro ev u' w6 ⟨rfl, rfl, hKp⟩
  obtain ⟨o1, o2⟩ := outM_of hE4H.out c0X hKp
  refine ⟨_, results_tmp2 rfl _ _ _, vX, rfl, ?_, o2⟩
  simpa [St.add, st0] using o1

set_option maxHeartbeats 800000 in
theorem Marshal_Int64 {w : World} {T : List UInt8} (v : Int)
    (hC : ∀ wr, EncF (encM w (.iface 2 (.int .i64 v))) none (w.heap.size + 1) (w.heap.size + 1) (st0 .nilIface) wr → Calls Tryz.prog 55 #[.pointer (some ⟨w.heap.size + 1, 0, none⟩), .int .i64 v] wr (EncV (encM w (.iface 2 (.int .i64 v))) none (w.heap.size + 1) (w.heap.size + 1) ((st0 .nilIface).add T))) :
    Calls Tryz.prog 17 #[.iface 2 (.int .i64 v)] w (Out w.heap.size w T) := by
  have hCH := Lib.hid (marshal_Int64 v hC)
  clear hC
  go_enter Tryz.func17, Tryz.ntmps17
  go_wp2_with (go_at_call 28; refine hCH.out.mono ?_; rintro ev w3 ⟨vX, rfl, ho, hk⟩; have hoH := Lib.hid ho; have hkH := Lib.hid hk; clear ho hk)
  go_ret2
  exact ⟨vX, rfl, hoH.out, hkH.out⟩

theorem ta_Float_0 (x : Value) (w : World) : (Instr.typeAssert (.iface 22 x) 20 72 true).run Tryz.prog w = .ok (.tuple #[.nilIface, .bool false]) w := ta_none (ms := #[("IsNil", 108), ("MarshalJSONObject", 66)]) (i := Tryz.t22) (by kernel_rfl) (by kernel_rfl) (by decide +kernel) (fun w => by kernel_rfl)

theorem ta_Float_1 (x : Value) (w : World) : (Instr.typeAssert (.iface 22 x) 20 63 true).run Tryz.prog w = .ok (.tuple #[.nilIface, .bool false]) w := ta_none (ms := #[("IsNil", 108), ("MarshalJSONArray", 66)]) (i := Tryz.t22) (by kernel_rfl) (by kernel_rfl) (by decide +kernel) (fun w => by kernel_rfl)

theorem ta_Float_2 (x : Value) (w : World) : (Instr.typeAssert (.iface 22 x) 20 9 true).run Tryz.prog w = .ok (.tuple #[.string ⟨#[]⟩, .bool false]) w := by kernel_rfl

theorem ta_Float_3 (x : Value) (w : World) : (Instr.typeAssert (.iface 22 x) 20 4 true).run Tryz.prog w = .ok (.tuple #[.bool false, .bool false]) w := by kernel_rfl

theorem ta_Float_4 (x : Value) (w : World) : (Instr.typeAssert (.iface 22 x) 20 3 true).run Tryz.prog w = .ok (.tuple #[.int .i64 0, .bool false]) w := by kernel_rfl

theorem ta_Float_5 (x : Value) (w : World) : (Instr.typeAssert (.iface 22 x) 20 2 true).run Tryz.prog w = .ok (.tuple #[.int .i64 0, .bool false]) w := by kernel_rfl

theorem ta_Float_6 (x : Value) (w : World) : (Instr.typeAssert (.iface 22 x) 20 21 true).run Tryz.prog w = .ok (.tuple #[.int .i32 0, .bool false]) w := by kernel_rfl

theorem ta_Float_7 (x : Value) (w : World) : (Instr.typeAssert (.iface 22 x) 20 97 true).run Tryz.prog w = .ok (.tuple #[.int .i16 0, .bool false]) w := by kernel_rfl

theorem ta_Float_8 (x : Value) (w : World) : (Instr.typeAssert (.iface 22 x) 20 98 true).run Tryz.prog w = .ok (.tuple #[.int .i8 0, .bool false]) w := by kernel_rfl

theorem ta_Float_9 (x : Value) (w : World) : (Instr.typeAssert (.iface 22 x) 20 92 true).run Tryz.prog w = .ok (.tuple #[.int .u64 0, .bool false]) w := by kernel_rfl

theorem ta_Float_10 (x : Value) (w : World) : (Instr.typeAssert (.iface 22 x) 20 99 true).run Tryz.prog w = .ok (.tuple #[.int .u32 0, .bool false]) w := by kernel_rfl

theorem ta_Float_11 (x : Value) (w : World) : (Instr.typeAssert (.iface 22 x) 20 100 true).run Tryz.prog w = .ok (.tuple #[.int .u16 0, .bool false]) w := by kernel_rfl

theorem ta_Float_12 (x : Value) (w : World) : (Instr.typeAssert (.iface 22 x) 20 5 true).run Tryz.prog w = .ok (.tuple #[.int .u8 0, .bool false]) w := by kernel_rfl

theorem ta_Float_13 (x : Value) (w : World) : (Instr.typeAssert (.iface 22 x) 20 22 true).run Tryz.prog w = .ok (.tuple #[x, .bool true]) w := by kernel_rfl

set_option maxHeartbeats 3200000 in
set_option maxRecDepth 100000 in
theorem marshal2_Float {w wr : World} {s s2 : St} (v : Nat) (hE : EncF (encM w (.iface 22 (.float .f64 v))) none (w.heap.size + 1) (w.heap.size + 1) s wr)
    (hC : Calls Tryz.prog 56 #[.pointer (some ⟨w.heap.size + 1, 0, none⟩), .float .f64 v] wr (EncV (encM w (.iface 22 (.float .f64 v))) none (w.heap.size + 1) (w.heap.size + 1) s2)) :
    Calls Tryz.prog 50 #[.pointer (some ⟨w.heap.size, 0, none⟩), .pointer (some ⟨w.heap.size + 2, 0, none⟩)] wr (EncV (encM w (.iface 22 (.float .f64 v))) none (w.heap.size + 1) (w.heap.size + 1) s2) := by
  have hx := hE.boxV
  have hp := hE.varM
  have hCH := Lib.hid hC
  have q0 := ta_Float_0
  have q1 := ta_Float_1
  have q2 := ta_Float_2
  have q3 := ta_Float_3
  have q4 := ta_Float_4
  have q5 := ta_Float_5
  have q6 := ta_Float_6
  have q7 := ta_Float_7
  have q8 := ta_Float_8
  have q9 := ta_Float_9
  have q10 := ta_Float_10
  have q11 := ta_Float_11
  have q12 := ta_Float_12
  have q13 := ta_Float_13
  clear hE hC
  go_enter Tryz.func50, Tryz.ntmps50
  go_wp2_with (go_at_call 56; refine hCH.out.mono ?_; rintro ev w3 ⟨vX, rfl, hE4, c0X⟩; have hE4H := Lib.hid hE4; clear hE4)
  go_ret2
  exact ⟨vX, rfl, hE4H.out, c0X⟩

set_option maxHeartbeats 3200000 in
set_option maxRecDepth 100000 in
theorem marshal_Float {w : World} {T : List UInt8} (v : Nat)
    (hC : ∀ wr, EncF (encM w (.iface 22 (.float .f64 v))) none (w.heap.size + 1) (w.heap.size + 1) (st0 .nilIface) wr → Calls Tryz.prog 56 #[.pointer (some ⟨w.heap.size + 1, 0, none⟩), .float .f64 v] wr (EncV (encM w (.iface 22 (.float .f64 v))) none (w.heap.size + 1) (w.heap.size + 1) ((st0 .nilIface).add T))) :
    Calls Tryz.prog 28 #[.iface 22 (.float .f64 v), .bool false] w (Out w.heap.size w T) := by
  have hE0H := Lib.hid (encM_enc w (.iface 22 (.float .f64 v)))
  have hCH := Lib.hid hC
  have hmf : ∀ (fn : Fn) (first cap : Array Value) (w : World), (Instr.makeFunc fn first cap).run Tryz.prog w = .ok (.func fn first cap) w := fun _ _ _ _ => rfl
  clear hC
  go_enter_defers Tryz.func28, Tryz.ntmps28
  go_wp2_with (first
    | (go_at_call 29; refine (BorrowEncoder_any _).mono ?_; rintro ev w1 ⟨rfl, rfl⟩)
    | (go_at_call 50; refine (marshal2_Float v hE0H.out (hCH.out _ hE0H.out)).mono ?_; rintro ev w3 ⟨vX, rfl, hE4, c0X⟩; have hE4H := Lib.hid hE4; clear hE4; have p4 := hE4H.out.varM; obtain ⟨bbX, hEX, hFX⟩ := hE4H.out; obtain ⟨_, _, _, c1X, _, _, _, _, hfzX, _⟩ := hEX.cells; have hfzH := Lib.hid hfzX; clear hFX hfzX hEX)
    )
  refine leaves_cons (f := 49) (args := #[.pointer (some ⟨w.heap.size + 2, 0, none⟩)]) (by simp) (by simp [go_sem]) ?_
  refine (closeM p4 c0X c1X hfzH.out (by omega)).mono ?_
  rintro ev u' w6 ⟨rfl, rfl, hKp⟩
  obtain ⟨o1, o2⟩ := outM_of hE4H.out c0X hKp
  refine ⟨_, results_tmp2 rfl _ _ _, vX, rfl, ?_, o2⟩
  simpa [St.add, st0] using o1

set_option maxHeartbeats 800000 in
theorem Marshal_Float {w : World} {T : List UInt8} (v : Nat)
    (hC : ∀ wr, EncF (encM w (.iface 22 (.float .f64 v))) none (w.heap.size + 1) (w.heap.size + 1) (st0 .nilIface) wr → Calls Tryz.prog 56 #[.pointer (some ⟨w.heap.size + 1, 0, none⟩), .float .f64 v] wr (EncV (encM w (.iface 22 (.float .f64 v))) none (w.heap.size + 1) (w.heap.size + 1) ((st0 .nilIface).add T))) :
    Calls Tryz.prog 17 #[.iface 22 (.float .f64 v)] w (Out w.heap.size w T) := by
  have hCH := Lib.hid (marshal_Float v hC)
  clear hC
  go_enter Tryz.func17, Tryz.ntmps17
  go_wp2_with (go_at_call 28; refine hCH.out.mono ?_; rintro ev w3 ⟨vX, rfl, ho, hk⟩; have hoH := Lib.hid ho; have hkH := Lib.hid hk; clear ho hk)
  go_ret2
  exact ⟨vX, rfl, hoH.out, hkH.out⟩

theorem ta_String_0 (x : Value) (w : World) : (Instr.typeAssert (.iface 9 x) 20 72 true).run Tryz.prog w = .ok (.tuple #[.nilIface, .bool false]) w := ta_none (ms := #[("IsNil", 108), ("MarshalJSONObject", 66)]) (i := Tryz.t9) (by kernel_rfl) (by kernel_rfl) (by decide +kernel) (fun w => by kernel_rfl)

theorem ta_String_1 (x : Value) (w : World) : (Instr.typeAssert (.iface 9 x) 20 63 true).run Tryz.prog w = .ok (.tuple #[.nilIface, .bool false]) w := ta_none (ms := #[("IsNil", 108), ("MarshalJSONArray", 66)]) (i := Tryz.t9) (by kernel_rfl) (by kernel_rfl) (by decide +kernel) (fun w => by kernel_rfl)

theorem ta_String_2 (x : Value) (w : World) : (Instr.typeAssert (.iface 9 x) 20 9 true).run Tryz.prog w = .ok (.tuple #[x, .bool true]) w := by kernel_rfl

set_option maxHeartbeats 3200000 in
set_option maxRecDepth 100000 in
theorem marshal2_String {w wr : World} {s s2 : St} (v : ByteArray) (hE : EncF (encM w (.iface 9 (.string v))) none (w.heap.size + 1) (w.heap.size + 1) s wr)
    (hC : Calls Tryz.prog 52 #[.pointer (some ⟨w.heap.size + 1, 0, none⟩), .string v] wr (EncV (encM w (.iface 9 (.string v))) none (w.heap.size + 1) (w.heap.size + 1) s2)) :
    Calls Tryz.prog 50 #[.pointer (some ⟨w.heap.size, 0, none⟩), .pointer (some ⟨w.heap.size + 2, 0, none⟩)] wr (EncV (encM w (.iface 9 (.string v))) none (w.heap.size + 1) (w.heap.size + 1) s2) := by
  have hx := hE.boxV
  have hp := hE.varM
  have hCH := Lib.hid hC
  have q0 := ta_String_0
  have q1 := ta_String_1
  have q2 := ta_String_2
  clear hE hC
  go_enter Tryz.func50, Tryz.ntmps50
  go_wp2_with (go_at_call 52; refine hCH.out.mono ?_; rintro ev w3 ⟨vX, rfl, hE4, c0X⟩; have hE4H := Lib.hid hE4; clear hE4)
  go_ret2
  exact ⟨vX, rfl, hE4H.out, c0X⟩

set_option maxHeartbeats 3200000 in
set_option maxRecDepth 100000 in
theorem marshal_String {w : World} {T : List UInt8} (v : ByteArray)
    (hC : ∀ wr, EncF (encM w (.iface 9 (.string v))) none (w.heap.size + 1) (w.heap.size + 1) (st0 .nilIface) wr → Calls Tryz.prog 52 #[.pointer (some ⟨w.heap.size + 1, 0, none⟩), .string v] wr (EncV (encM w (.iface 9 (.string v))) none (w.heap.size + 1) (w.heap.size + 1) ((st0 .nilIface).add T))) :
    Calls Tryz.prog 28 #[.iface 9 (.string v), .bool false] w (Out w.heap.size w T) := by
  have hE0H := Lib.hid (encM_enc w (.iface 9 (.string v)))
  have hCH := Lib.hid hC
  have hmf : ∀ (fn : Fn) (first cap : Array Value) (w : World), (Instr.makeFunc fn first cap).run Tryz.prog w = .ok (.func fn first cap) w := fun _ _ _ _ => rfl
  clear hC
  go_enter_defers Tryz.func28, Tryz.ntmps28
  go_wp2_with (first
    | (go_at_call 29; refine (BorrowEncoder_any _).mono ?_; rintro ev w1 ⟨rfl, rfl⟩)
    | (go_at_call 50; refine (marshal2_String v hE0H.out (hCH.out _ hE0H.out)).mono ?_; rintro ev w3 ⟨vX, rfl, hE4, c0X⟩; have hE4H := Lib.hid hE4; clear hE4; have p4 := hE4H.out.varM; obtain ⟨bbX, hEX, hFX⟩ := hE4H.out; obtain ⟨_, _, _, c1X, _, _, _, _, hfzX, _⟩ := hEX.cells; have hfzH := Lib.hid hfzX; clear hFX hfzX hEX)
    )
  refine leaves_cons (f := 49) (args := #[.pointer (some ⟨w.heap.size + 2, 0, none⟩)]) (by simp) (by simp [go_sem]) ?_
  refine (closeM p4 c0X c1X hfzH.out (by omega)).mono ?_
  rintro ev u' w6 ⟨rfl, rfl, hKp⟩
  obtain ⟨o1, o2⟩ := outM_of hE4H.out c0X hKp
  refine ⟨_, results_tmp2 rfl _ _ _, vX, rfl, ?_, o2⟩
  simpa [St.add, st0] using o1

set_option maxHeartbeats 800000 in
theorem Marshal_String {w : World} {T : List UInt8} (v : ByteArray)
    (hC : ∀ wr, EncF (encM w (.iface 9 (.string v))) none (w.heap.size + 1) (w.heap.size + 1) (st0 .nilIface) wr → Calls Tryz.prog 52 #[.pointer (some ⟨w.heap.size + 1, 0, none⟩), .string v] wr (EncV (encM w (.iface 9 (.string v))) none (w.heap.size + 1) (w.heap.size + 1) ((st0 .nilIface).add T))) :
    Calls Tryz.prog 17 #[.iface 9 (.string v)] w (Out w.heap.size w T) := by
  have hCH := Lib.hid (marshal_String v hC)
  clear hC
  go_enter Tryz.func17, Tryz.ntmps17
  go_wp2_with (go_at_call 28; refine hCH.out.mono ?_; rintro ev w3 ⟨vX, rfl, ho, hk⟩; have hoH := Lib.hid ho; have hkH := Lib.hid hk; clear ho hk)
  go_ret2
  exact ⟨vX, rfl, hoH.out, hkH.out⟩

end Go.Proofs.YtokmkkkanphihaaGreatRDoor
