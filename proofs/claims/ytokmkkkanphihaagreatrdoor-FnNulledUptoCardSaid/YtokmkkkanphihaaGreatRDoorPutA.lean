/- impl.put and its kin hand each value to the encoder's method for it (written by genP.py). -/
import Derived.Test.YtokmkkkanphihaaGreatRDoorYVal
namespace Go.Proofs.YtokmkkkanphihaaGreatRDoor
open Go.RowKit Go.Sort


set_option maxHeartbeats 800000 in
set_option maxRecDepth 100000 in
theorem null_1 {w : World} {b o e : Nat} {R : World → Prop} (h0 : w.cell? ⟨b, o, none⟩ = some (.int .i64 1)) 
    (hC0 : Calls Tryz.prog 160 #[.pointer (some ⟨e, 0, none⟩)] w fun ev w' => ev = .returned (.tuple #[]) ∧ R w') :
    Calls Tryz.prog 148 #[.pointer (some ⟨e, 0, none⟩), .pointer (some ⟨b, o, none⟩)] w fun ev w' => ev = .returned (.tuple #[]) ∧ R w' := by
  have hC := Lib.hid hC0
  clear hC0
  go_enter Tryz.func148, Tryz.ntmps148
  go_wp2_with (go_at_call 160; refine hC.out.mono ?_; rintro ev w2 ⟨rfl, hR⟩; have hRH := Lib.hid hR; clear hR)
  first | go_end0 | refine bodyPost_ret (results_none rfl _ _ _) rfl ?_
  exact ⟨rfl, hRH.out⟩


set_option maxHeartbeats 800000 in
set_option maxRecDepth 100000 in
theorem null_2 {w : World} {b o e : Nat} {i : Int} {R : World → Prop} (h0 : w.cell? ⟨b, o, none⟩ = some (.int .i64 2)) (h1 : w.cell? ⟨b, o + 1, none⟩ = some (.int .i64 i)) 
    (hC0 : Calls Tryz.prog 161 #[.pointer (some ⟨e, 0, none⟩), .bool (i == 1)] w fun ev w' => ev = .returned (.tuple #[]) ∧ R w') :
    Calls Tryz.prog 148 #[.pointer (some ⟨e, 0, none⟩), .pointer (some ⟨b, o, none⟩)] w fun ev w' => ev = .returned (.tuple #[]) ∧ R w' := by
  have hC := Lib.hid hC0
  clear hC0
  go_enter Tryz.func148, Tryz.ntmps148
  go_wp2_with (go_at_call 161; refine hC.out.mono ?_; rintro ev w2 ⟨rfl, hR⟩; have hRH := Lib.hid hR; clear hR)
  first | go_end0 | refine bodyPost_ret (results_none rfl _ _ _) rfl ?_
  exact ⟨rfl, hRH.out⟩


set_option maxHeartbeats 800000 in
set_option maxRecDepth 100000 in
theorem null_3 {w : World} {b o e : Nat} {i : Int} {R : World → Prop} (h0 : w.cell? ⟨b, o, none⟩ = some (.int .i64 3)) (h1 : w.cell? ⟨b, o + 1, none⟩ = some (.int .i64 i)) 
    (hC0 : Calls Tryz.prog 162 #[.pointer (some ⟨e, 0, none⟩), .int .i64 i] w fun ev w' => ev = .returned (.tuple #[]) ∧ R w') :
    Calls Tryz.prog 148 #[.pointer (some ⟨e, 0, none⟩), .pointer (some ⟨b, o, none⟩)] w fun ev w' => ev = .returned (.tuple #[]) ∧ R w' := by
  have hC := Lib.hid hC0
  clear hC0
  go_enter Tryz.func148, Tryz.ntmps148
  go_wp2_with (go_at_call 162; refine hC.out.mono ?_; rintro ev w2 ⟨rfl, hR⟩; have hRH := Lib.hid hR; clear hR)
  first | go_end0 | refine bodyPost_ret (results_none rfl _ _ _) rfl ?_
  exact ⟨rfl, hRH.out⟩


set_option maxHeartbeats 800000 in
set_option maxRecDepth 100000 in
theorem null_4 {w : World} {b o e : Nat} {r : Nat} {R : World → Prop} (h0 : w.cell? ⟨b, o, none⟩ = some (.int .i64 4)) (h1 : w.cell? ⟨b, o + 2, none⟩ = some (.float .f64 r)) 
    (hC0 : Calls Tryz.prog 163 #[.pointer (some ⟨e, 0, none⟩), .float .f64 r] w fun ev w' => ev = .returned (.tuple #[]) ∧ R w') :
    Calls Tryz.prog 148 #[.pointer (some ⟨e, 0, none⟩), .pointer (some ⟨b, o, none⟩)] w fun ev w' => ev = .returned (.tuple #[]) ∧ R w' := by
  have hC := Lib.hid hC0
  clear hC0
  go_enter Tryz.func148, Tryz.ntmps148
  go_wp2_with (go_at_call 163; refine hC.out.mono ?_; rintro ev w2 ⟨rfl, hR⟩; have hRH := Lib.hid hR; clear hR)
  first | go_end0 | refine bodyPost_ret (results_none rfl _ _ _) rfl ?_
  exact ⟨rfl, hRH.out⟩


set_option maxHeartbeats 800000 in
set_option maxRecDepth 100000 in
theorem null_5 {w : World} {b o e : Nat} {t : ByteArray} {R : World → Prop} (h0 : w.cell? ⟨b, o, none⟩ = some (.int .i64 5)) (h1 : w.cell? ⟨b, o + 3, none⟩ = some (.string t)) 
    (hC0 : Calls Tryz.prog 164 #[.pointer (some ⟨e, 0, none⟩), .string t] w fun ev w' => ev = .returned (.tuple #[]) ∧ R w') :
    Calls Tryz.prog 148 #[.pointer (some ⟨e, 0, none⟩), .pointer (some ⟨b, o, none⟩)] w fun ev w' => ev = .returned (.tuple #[]) ∧ R w' := by
  have hC := Lib.hid hC0
  clear hC0
  go_enter Tryz.func148, Tryz.ntmps148
  go_wp2_with (go_at_call 164; refine hC.out.mono ?_; rintro ev w2 ⟨rfl, hR⟩; have hRH := Lib.hid hR; clear hR)
  first | go_end0 | refine bodyPost_ret (results_none rfl _ _ _) rfl ?_
  exact ⟨rfl, hRH.out⟩


set_option maxHeartbeats 800000 in
set_option maxRecDepth 100000 in
theorem null_6 {w : World} {b o e : Nat} {R : World → Prop} (h0 : w.cell? ⟨b, o, none⟩ = some (.int .i64 6)) 
    (hC0 : Calls Tryz.prog 165 #[.pointer (some ⟨e, 0, none⟩), .iface 44 (.agg #[.pointer (some ⟨b, o, none⟩), .int .i64 2])] w fun ev w' => ev = .returned (.tuple #[]) ∧ R w') :
    Calls Tryz.prog 148 #[.pointer (some ⟨e, 0, none⟩), .pointer (some ⟨b, o, none⟩)] w fun ev w' => ev = .returned (.tuple #[]) ∧ R w' := by
  have hC := Lib.hid hC0
  clear hC0
  go_enter Tryz.func148, Tryz.ntmps148
  go_wp2_with (go_at_call 165; refine hC.out.mono ?_; rintro ev w2 ⟨rfl, hR⟩; have hRH := Lib.hid hR; clear hR)
  first | go_end0 | refine bodyPost_ret (results_none rfl _ _ _) rfl ?_
  exact ⟨rfl, hRH.out⟩


set_option maxHeartbeats 800000 in
set_option maxRecDepth 100000 in
theorem null_7 {w : World} {b o e : Nat} {R : World → Prop} (h0 : w.cell? ⟨b, o, none⟩ = some (.int .i64 7)) 
    (hC0 : Calls Tryz.prog 166 #[.pointer (some ⟨e, 0, none⟩), .iface 44 (.agg #[.pointer (some ⟨b, o, none⟩), .int .i64 2])] w fun ev w' => ev = .returned (.tuple #[]) ∧ R w') :
    Calls Tryz.prog 148 #[.pointer (some ⟨e, 0, none⟩), .pointer (some ⟨b, o, none⟩)] w fun ev w' => ev = .returned (.tuple #[]) ∧ R w' := by
  have hC := Lib.hid hC0
  clear hC0
  go_enter Tryz.func148, Tryz.ntmps148
  go_wp2_with (go_at_call 166; refine hC.out.mono ?_; rintro ev w2 ⟨rfl, hR⟩; have hRH := Lib.hid hR; clear hR)
  first | go_end0 | refine bodyPost_ret (results_none rfl _ _ _) rfl ?_
  exact ⟨rfl, hRH.out⟩


set_option maxHeartbeats 800000 in
set_option maxRecDepth 100000 in
theorem nullKey_1 {w : World} {b o e : Nat} {key : ByteArray} {R : World → Prop} (h0 : w.cell? ⟨b, o, none⟩ = some (.int .i64 1)) 
    (hC0 : Calls Tryz.prog 181 #[.pointer (some ⟨e, 0, none⟩), .string key] w fun ev w' => ev = .returned (.tuple #[]) ∧ R w') :
    Calls Tryz.prog 151 #[.pointer (some ⟨e, 0, none⟩), .string key, .pointer (some ⟨b, o, none⟩)] w fun ev w' => ev = .returned (.tuple #[]) ∧ R w' := by
  have hC := Lib.hid hC0
  clear hC0
  go_enter Tryz.func151, Tryz.ntmps151
  go_wp2_with (go_at_call 181; refine hC.out.mono ?_; rintro ev w2 ⟨rfl, hR⟩; have hRH := Lib.hid hR; clear hR)
  first | go_end0 | refine bodyPost_ret (results_none rfl _ _ _) rfl ?_
  exact ⟨rfl, hRH.out⟩


set_option maxHeartbeats 800000 in
set_option maxRecDepth 100000 in
theorem nullKey_2 {w : World} {b o e : Nat} {i : Int} {key : ByteArray} {R : World → Prop} (h0 : w.cell? ⟨b, o, none⟩ = some (.int .i64 2)) (h1 : w.cell? ⟨b, o + 1, none⟩ = some (.int .i64 i)) 
    (hC0 : Calls Tryz.prog 182 #[.pointer (some ⟨e, 0, none⟩), .string key, .bool (i == 1)] w fun ev w' => ev = .returned (.tuple #[]) ∧ R w') :
    Calls Tryz.prog 151 #[.pointer (some ⟨e, 0, none⟩), .string key, .pointer (some ⟨b, o, none⟩)] w fun ev w' => ev = .returned (.tuple #[]) ∧ R w' := by
  have hC := Lib.hid hC0
  clear hC0
  go_enter Tryz.func151, Tryz.ntmps151
  go_wp2_with (go_at_call 182; refine hC.out.mono ?_; rintro ev w2 ⟨rfl, hR⟩; have hRH := Lib.hid hR; clear hR)
  first | go_end0 | refine bodyPost_ret (results_none rfl _ _ _) rfl ?_
  exact ⟨rfl, hRH.out⟩


set_option maxHeartbeats 800000 in
set_option maxRecDepth 100000 in
theorem nullKey_3 {w : World} {b o e : Nat} {i : Int} {key : ByteArray} {R : World → Prop} (h0 : w.cell? ⟨b, o, none⟩ = some (.int .i64 3)) (h1 : w.cell? ⟨b, o + 1, none⟩ = some (.int .i64 i)) 
    (hC0 : Calls Tryz.prog 183 #[.pointer (some ⟨e, 0, none⟩), .string key, .int .i64 i] w fun ev w' => ev = .returned (.tuple #[]) ∧ R w') :
    Calls Tryz.prog 151 #[.pointer (some ⟨e, 0, none⟩), .string key, .pointer (some ⟨b, o, none⟩)] w fun ev w' => ev = .returned (.tuple #[]) ∧ R w' := by
  have hC := Lib.hid hC0
  clear hC0
  go_enter Tryz.func151, Tryz.ntmps151
  go_wp2_with (go_at_call 183; refine hC.out.mono ?_; rintro ev w2 ⟨rfl, hR⟩; have hRH := Lib.hid hR; clear hR)
  first | go_end0 | refine bodyPost_ret (results_none rfl _ _ _) rfl ?_
  exact ⟨rfl, hRH.out⟩


set_option maxHeartbeats 800000 in
set_option maxRecDepth 100000 in
theorem nullKey_4 {w : World} {b o e : Nat} {r : Nat} {key : ByteArray} {R : World → Prop} (h0 : w.cell? ⟨b, o, none⟩ = some (.int .i64 4)) (h1 : w.cell? ⟨b, o + 2, none⟩ = some (.float .f64 r)) 
    (hC0 : Calls Tryz.prog 184 #[.pointer (some ⟨e, 0, none⟩), .string key, .float .f64 r] w fun ev w' => ev = .returned (.tuple #[]) ∧ R w') :
    Calls Tryz.prog 151 #[.pointer (some ⟨e, 0, none⟩), .string key, .pointer (some ⟨b, o, none⟩)] w fun ev w' => ev = .returned (.tuple #[]) ∧ R w' := by
  have hC := Lib.hid hC0
  clear hC0
  go_enter Tryz.func151, Tryz.ntmps151
  go_wp2_with (go_at_call 184; refine hC.out.mono ?_; rintro ev w2 ⟨rfl, hR⟩; have hRH := Lib.hid hR; clear hR)
  first | go_end0 | refine bodyPost_ret (results_none rfl _ _ _) rfl ?_
  exact ⟨rfl, hRH.out⟩


set_option maxHeartbeats 800000 in
set_option maxRecDepth 100000 in
theorem nullKey_5 {w : World} {b o e : Nat} {t : ByteArray} {key : ByteArray} {R : World → Prop} (h0 : w.cell? ⟨b, o, none⟩ = some (.int .i64 5)) (h1 : w.cell? ⟨b, o + 3, none⟩ = some (.string t)) 
    (hC0 : Calls Tryz.prog 185 #[.pointer (some ⟨e, 0, none⟩), .string key, .string t] w fun ev w' => ev = .returned (.tuple #[]) ∧ R w') :
    Calls Tryz.prog 151 #[.pointer (some ⟨e, 0, none⟩), .string key, .pointer (some ⟨b, o, none⟩)] w fun ev w' => ev = .returned (.tuple #[]) ∧ R w' := by
  have hC := Lib.hid hC0
  clear hC0
  go_enter Tryz.func151, Tryz.ntmps151
  go_wp2_with (go_at_call 185; refine hC.out.mono ?_; rintro ev w2 ⟨rfl, hR⟩; have hRH := Lib.hid hR; clear hR)
  first | go_end0 | refine bodyPost_ret (results_none rfl _ _ _) rfl ?_
  exact ⟨rfl, hRH.out⟩


set_option maxHeartbeats 800000 in
set_option maxRecDepth 100000 in
theorem nullKey_6 {w : World} {b o e : Nat} {key : ByteArray} {R : World → Prop} (h0 : w.cell? ⟨b, o, none⟩ = some (.int .i64 6)) 
    (hC0 : Calls Tryz.prog 186 #[.pointer (some ⟨e, 0, none⟩), .string key, .iface 44 (.agg #[.pointer (some ⟨b, o, none⟩), .int .i64 2])] w fun ev w' => ev = .returned (.tuple #[]) ∧ R w') :
    Calls Tryz.prog 151 #[.pointer (some ⟨e, 0, none⟩), .string key, .pointer (some ⟨b, o, none⟩)] w fun ev w' => ev = .returned (.tuple #[]) ∧ R w' := by
  have hC := Lib.hid hC0
  clear hC0
  go_enter Tryz.func151, Tryz.ntmps151
  go_wp2_with (go_at_call 186; refine hC.out.mono ?_; rintro ev w2 ⟨rfl, hR⟩; have hRH := Lib.hid hR; clear hR)
  first | go_end0 | refine bodyPost_ret (results_none rfl _ _ _) rfl ?_
  exact ⟨rfl, hRH.out⟩


set_option maxHeartbeats 800000 in
set_option maxRecDepth 100000 in
theorem nullKey_7 {w : World} {b o e : Nat} {key : ByteArray} {R : World → Prop} (h0 : w.cell? ⟨b, o, none⟩ = some (.int .i64 7)) 
    (hC0 : Calls Tryz.prog 187 #[.pointer (some ⟨e, 0, none⟩), .string key, .iface 44 (.agg #[.pointer (some ⟨b, o, none⟩), .int .i64 2])] w fun ev w' => ev = .returned (.tuple #[]) ∧ R w') :
    Calls Tryz.prog 151 #[.pointer (some ⟨e, 0, none⟩), .string key, .pointer (some ⟨b, o, none⟩)] w fun ev w' => ev = .returned (.tuple #[]) ∧ R w' := by
  have hC := Lib.hid hC0
  clear hC0
  go_enter Tryz.func151, Tryz.ntmps151
  go_wp2_with (go_at_call 187; refine hC.out.mono ?_; rintro ev w2 ⟨rfl, hR⟩; have hRH := Lib.hid hR; clear hR)
  first | go_end0 | refine bodyPost_ret (results_none rfl _ _ _) rfl ?_
  exact ⟨rfl, hRH.out⟩


end Go.Proofs.YtokmkkkanphihaaGreatRDoor
