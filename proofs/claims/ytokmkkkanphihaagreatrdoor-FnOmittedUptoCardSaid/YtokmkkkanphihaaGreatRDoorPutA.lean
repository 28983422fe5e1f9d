/- impl.put and its kin hand each value to the encoder's method for it (written by genP.py). -/
import Derived.Test.YtokmkkkanphihaaGreatRDoorYVal
namespace Go.Proofs.YtokmkkkanphihaaGreatRDoor
open Go.RowKit Go.Sort


set_option maxHeartbeats 800000 in
set_option maxRecDepth 100000 in
theorem omit_1 {w : World} {b o e : Nat} {R : World → Prop} (h0 : w.cell? ⟨b, o, none⟩ = some (.int .i64 1)) 
    (hC0 : Calls Tryz.prog 160 #[.pointer (some ⟨e, 0, none⟩)] w fun ev w' => ev = .returned (.tuple #[]) ∧ R w') :
    Calls Tryz.prog 147 #[.pointer (some ⟨e, 0, none⟩), .pointer (some ⟨b, o, none⟩)] w fun ev w' => ev = .returned (.tuple #[]) ∧ R w' := by
  have hC := Lib.hid hC0
  clear hC0
  go_enter Tryz.func147, Tryz.ntmps147
  go_wp2_with (go_at_call 160; refine hC.out.mono ?_; rintro ev w2 ⟨rfl, hR⟩; have hRH := Lib.hid hR; clear hR)
  first | go_end0 | refine bodyPost_ret (results_none rfl _ _ _) rfl ?_
  exact ⟨rfl, hRH.out⟩


set_option maxHeartbeats 800000 in
set_option maxRecDepth 100000 in
theorem omit_2 {w : World} {b o e : Nat} {i : Int} {R : World → Prop} (h0 : w.cell? ⟨b, o, none⟩ = some (.int .i64 2)) (h1 : w.cell? ⟨b, o + 1, none⟩ = some (.int .i64 i)) 
    (hC0 : Calls Tryz.prog 153 #[.pointer (some ⟨e, 0, none⟩), .bool (i == 1)] w fun ev w' => ev = .returned (.tuple #[]) ∧ R w') :
    Calls Tryz.prog 147 #[.pointer (some ⟨e, 0, none⟩), .pointer (some ⟨b, o, none⟩)] w fun ev w' => ev = .returned (.tuple #[]) ∧ R w' := by
  have hC := Lib.hid hC0
  clear hC0
  go_enter Tryz.func147, Tryz.ntmps147
  go_wp2_with (go_at_call 153; refine hC.out.mono ?_; rintro ev w2 ⟨rfl, hR⟩; have hRH := Lib.hid hR; clear hR)
  first | go_end0 | refine bodyPost_ret (results_none rfl _ _ _) rfl ?_
  exact ⟨rfl, hRH.out⟩


set_option maxHeartbeats 800000 in
set_option maxRecDepth 100000 in
theorem omit_3 {w : World} {b o e : Nat} {i : Int} {R : World → Prop} (h0 : w.cell? ⟨b, o, none⟩ = some (.int .i64 3)) (h1 : w.cell? ⟨b, o + 1, none⟩ = some (.int .i64 i)) 
    (hC0 : Calls Tryz.prog 154 #[.pointer (some ⟨e, 0, none⟩), .int .i64 i] w fun ev w' => ev = .returned (.tuple #[]) ∧ R w') :
    Calls Tryz.prog 147 #[.pointer (some ⟨e, 0, none⟩), .pointer (some ⟨b, o, none⟩)] w fun ev w' => ev = .returned (.tuple #[]) ∧ R w' := by
  have hC := Lib.hid hC0
  clear hC0
  go_enter Tryz.func147, Tryz.ntmps147
  go_wp2_with (go_at_call 154; refine hC.out.mono ?_; rintro ev w2 ⟨rfl, hR⟩; have hRH := Lib.hid hR; clear hR)
  first | go_end0 | refine bodyPost_ret (results_none rfl _ _ _) rfl ?_
  exact ⟨rfl, hRH.out⟩


set_option maxHeartbeats 800000 in
set_option maxRecDepth 100000 in
theorem omit_4 {w : World} {b o e : Nat} {r : Nat} {R : World → Prop} (h0 : w.cell? ⟨b, o, none⟩ = some (.int .i64 4)) (h1 : w.cell? ⟨b, o + 2, none⟩ = some (.float .f64 r)) 
    (hC0 : Calls Tryz.prog 155 #[.pointer (some ⟨e, 0, none⟩), .float .f64 r] w fun ev w' => ev = .returned (.tuple #[]) ∧ R w') :
    Calls Tryz.prog 147 #[.pointer (some ⟨e, 0, none⟩), .pointer (some ⟨b, o, none⟩)] w fun ev w' => ev = .returned (.tuple #[]) ∧ R w' := by
  have hC := Lib.hid hC0
  clear hC0
  go_enter Tryz.func147, Tryz.ntmps147
  go_wp2_with (go_at_call 155; refine hC.out.mono ?_; rintro ev w2 ⟨rfl, hR⟩; have hRH := Lib.hid hR; clear hR)
  first | go_end0 | refine bodyPost_ret (results_none rfl _ _ _) rfl ?_
  exact ⟨rfl, hRH.out⟩


set_option maxHeartbeats 800000 in
set_option maxRecDepth 100000 in
theorem omit_5 {w : World} {b o e : Nat} {t : ByteArray} {R : World → Prop} (h0 : w.cell? ⟨b, o, none⟩ = some (.int .i64 5)) (h1 : w.cell? ⟨b, o + 3, none⟩ = some (.string t)) 
    (hC0 : Calls Tryz.prog 156 #[.pointer (some ⟨e, 0, none⟩), .string t] w fun ev w' => ev = .returned (.tuple #[]) ∧ R w') :
    Calls Tryz.prog 147 #[.pointer (some ⟨e, 0, none⟩), .pointer (some ⟨b, o, none⟩)] w fun ev w' => ev = .returned (.tuple #[]) ∧ R w' := by
  have hC := Lib.hid hC0
  clear hC0
  go_enter Tryz.func147, Tryz.ntmps147
  go_wp2_with (go_at_call 156; refine hC.out.mono ?_; rintro ev w2 ⟨rfl, hR⟩; have hRH := Lib.hid hR; clear hR)
  first | go_end0 | refine bodyPost_ret (results_none rfl _ _ _) rfl ?_
  exact ⟨rfl, hRH.out⟩


set_option maxHeartbeats 800000 in
set_option maxRecDepth 100000 in
theorem omit_6 {w : World} {b o e : Nat} {R : World → Prop} (h0 : w.cell? ⟨b, o, none⟩ = some (.int .i64 6)) 
    (hC0 : Calls Tryz.prog 157 #[.pointer (some ⟨e, 0, none⟩), .iface 44 (.agg #[.pointer (some ⟨b, o, none⟩), .int .i64 1])] w fun ev w' => ev = .returned (.tuple #[]) ∧ R w') :
    Calls Tryz.prog 147 #[.pointer (some ⟨e, 0, none⟩), .pointer (some ⟨b, o, none⟩)] w fun ev w' => ev = .returned (.tuple #[]) ∧ R w' := by
  have hC := Lib.hid hC0
  clear hC0
  go_enter Tryz.func147, Tryz.ntmps147
  go_wp2_with (go_at_call 157; refine hC.out.mono ?_; rintro ev w2 ⟨rfl, hR⟩; have hRH := Lib.hid hR; clear hR)
  first | go_end0 | refine bodyPost_ret (results_none rfl _ _ _) rfl ?_
  exact ⟨rfl, hRH.out⟩


set_option maxHeartbeats 800000 in
set_option maxRecDepth 100000 in
theorem omit_7 {w : World} {b o e : Nat} {R : World → Prop} (h0 : w.cell? ⟨b, o, none⟩ = some (.int .i64 7)) 
    (hC0 : Calls Tryz.prog 158 #[.pointer (some ⟨e, 0, none⟩), .iface 44 (.agg #[.pointer (some ⟨b, o, none⟩), .int .i64 1])] w fun ev w' => ev = .returned (.tuple #[]) ∧ R w') :
    Calls Tryz.prog 147 #[.pointer (some ⟨e, 0, none⟩), .pointer (some ⟨b, o, none⟩)] w fun ev w' => ev = .returned (.tuple #[]) ∧ R w' := by
  have hC := Lib.hid hC0
  clear hC0
  go_enter Tryz.func147, Tryz.ntmps147
  go_wp2_with (go_at_call 158; refine hC.out.mono ?_; rintro ev w2 ⟨rfl, hR⟩; have hRH := Lib.hid hR; clear hR)
  first | go_end0 | refine bodyPost_ret (results_none rfl _ _ _) rfl ?_
  exact ⟨rfl, hRH.out⟩


set_option maxHeartbeats 800000 in
set_option maxRecDepth 100000 in
theorem omitKey_1 {w : World} {b o e : Nat} {key : ByteArray} {R : World → Prop} (h0 : w.cell? ⟨b, o, none⟩ = some (.int .i64 1)) 
    (hC0 : Calls Tryz.prog 181 #[.pointer (some ⟨e, 0, none⟩), .string key] w fun ev w' => ev = .returned (.tuple #[]) ∧ R w') :
    Calls Tryz.prog 150 #[.pointer (some ⟨e, 0, none⟩), .string key, .pointer (some ⟨b, o, none⟩)] w fun ev w' => ev = .returned (.tuple #[]) ∧ R w' := by
  have hC := Lib.hid hC0
  clear hC0
  go_enter Tryz.func150, Tryz.ntmps150
  go_wp2_with (go_at_call 181; refine hC.out.mono ?_; rintro ev w2 ⟨rfl, hR⟩; have hRH := Lib.hid hR; clear hR)
  first | go_end0 | refine bodyPost_ret (results_none rfl _ _ _) rfl ?_
  exact ⟨rfl, hRH.out⟩


set_option maxHeartbeats 800000 in
set_option maxRecDepth 100000 in
theorem omitKey_2 {w : World} {b o e : Nat} {i : Int} {key : ByteArray} {R : World → Prop} (h0 : w.cell? ⟨b, o, none⟩ = some (.int .i64 2)) (h1 : w.cell? ⟨b, o + 1, none⟩ = some (.int .i64 i)) 
    (hC0 : Calls Tryz.prog 174 #[.pointer (some ⟨e, 0, none⟩), .string key, .bool (i == 1)] w fun ev w' => ev = .returned (.tuple #[]) ∧ R w') :
    Calls Tryz.prog 150 #[.pointer (some ⟨e, 0, none⟩), .string key, .pointer (some ⟨b, o, none⟩)] w fun ev w' => ev = .returned (.tuple #[]) ∧ R w' := by
  have hC := Lib.hid hC0
  clear hC0
  go_enter Tryz.func150, Tryz.ntmps150
  go_wp2_with (go_at_call 174; refine hC.out.mono ?_; rintro ev w2 ⟨rfl, hR⟩; have hRH := Lib.hid hR; clear hR)
  first | go_end0 | refine bodyPost_ret (results_none rfl _ _ _) rfl ?_
  exact ⟨rfl, hRH.out⟩


set_option maxHeartbeats 800000 in
set_option maxRecDepth 100000 in
theorem omitKey_3 {w : World} {b o e : Nat} {i : Int} {key : ByteArray} {R : World → Prop} (h0 : w.cell? ⟨b, o, none⟩ = some (.int .i64 3)) (h1 : w.cell? ⟨b, o + 1, none⟩ = some (.int .i64 i)) 
    (hC0 : Calls Tryz.prog 175 #[.pointer (some ⟨e, 0, none⟩), .string key, .int .i64 i] w fun ev w' => ev = .returned (.tuple #[]) ∧ R w') :
    Calls Tryz.prog 150 #[.pointer (some ⟨e, 0, none⟩), .string key, .pointer (some ⟨b, o, none⟩)] w fun ev w' => ev = .returned (.tuple #[]) ∧ R w' := by
  have hC := Lib.hid hC0
  clear hC0
  go_enter Tryz.func150, Tryz.ntmps150
  go_wp2_with (go_at_call 175; refine hC.out.mono ?_; rintro ev w2 ⟨rfl, hR⟩; have hRH := Lib.hid hR; clear hR)
  first | go_end0 | refine bodyPost_ret (results_none rfl _ _ _) rfl ?_
  exact ⟨rfl, hRH.out⟩


set_option maxHeartbeats 800000 in
set_option maxRecDepth 100000 in
theorem omitKey_4 {w : World} {b o e : Nat} {r : Nat} {key : ByteArray} {R : World → Prop} (h0 : w.cell? ⟨b, o, none⟩ = some (.int .i64 4)) (h1 : w.cell? ⟨b, o + 2, none⟩ = some (.float .f64 r)) 
    (hC0 : Calls Tryz.prog 176 #[.pointer (some ⟨e, 0, none⟩), .string key, .float .f64 r] w fun ev w' => ev = .returned (.tuple #[]) ∧ R w') :
    Calls Tryz.prog 150 #[.pointer (some ⟨e, 0, none⟩), .string key, .pointer (some ⟨b, o, none⟩)] w fun ev w' => ev = .returned (.tuple #[]) ∧ R w' := by
  have hC := Lib.hid hC0
  clear hC0
  go_enter Tryz.func150, Tryz.ntmps150
  go_wp2_with (go_at_call 176; refine hC.out.mono ?_; rintro ev w2 ⟨rfl, hR⟩; have hRH := Lib.hid hR; clear hR)
  first | go_end0 | refine bodyPost_ret (results_none rfl _ _ _) rfl ?_
  exact ⟨rfl, hRH.out⟩


set_option maxHeartbeats 800000 in
set_option maxRecDepth 100000 in
theorem omitKey_5 {w : World} {b o e : Nat} {t : ByteArray} {key : ByteArray} {R : World → Prop} (h0 : w.cell? ⟨b, o, none⟩ = some (.int .i64 5)) (h1 : w.cell? ⟨b, o + 3, none⟩ = some (.string t)) 
    (hC0 : Calls Tryz.prog 177 #[.pointer (some ⟨e, 0, none⟩), .string key, .string t] w fun ev w' => ev = .returned (.tuple #[]) ∧ R w') :
    Calls Tryz.prog 150 #[.pointer (some ⟨e, 0, none⟩), .string key, .pointer (some ⟨b, o, none⟩)] w fun ev w' => ev = .returned (.tuple #[]) ∧ R w' := by
  have hC := Lib.hid hC0
  clear hC0
  go_enter Tryz.func150, Tryz.ntmps150
  go_wp2_with (go_at_call 177; refine hC.out.mono ?_; rintro ev w2 ⟨rfl, hR⟩; have hRH := Lib.hid hR; clear hR)
  first | go_end0 | refine bodyPost_ret (results_none rfl _ _ _) rfl ?_
  exact ⟨rfl, hRH.out⟩


set_option maxHeartbeats 800000 in
set_option maxRecDepth 100000 in
theorem omitKey_6 {w : World} {b o e : Nat} {key : ByteArray} {R : World → Prop} (h0 : w.cell? ⟨b, o, none⟩ = some (.int .i64 6)) 
    (hC0 : Calls Tryz.prog 178 #[.pointer (some ⟨e, 0, none⟩), .string key, .iface 44 (.agg #[.pointer (some ⟨b, o, none⟩), .int .i64 1])] w fun ev w' => ev = .returned (.tuple #[]) ∧ R w') :
    Calls Tryz.prog 150 #[.pointer (some ⟨e, 0, none⟩), .string key, .pointer (some ⟨b, o, none⟩)] w fun ev w' => ev = .returned (.tuple #[]) ∧ R w' := by
  have hC := Lib.hid hC0
  clear hC0
  go_enter Tryz.func150, Tryz.ntmps150
  go_wp2_with (go_at_call 178; refine hC.out.mono ?_; rintro ev w2 ⟨rfl, hR⟩; have hRH := Lib.hid hR; clear hR)
  first | go_end0 | refine bodyPost_ret (results_none rfl _ _ _) rfl ?_
  exact ⟨rfl, hRH.out⟩


set_option maxHeartbeats 800000 in
set_option maxRecDepth 100000 in
theorem omitKey_7 {w : World} {b o e : Nat} {key : ByteArray} {R : World → Prop} (h0 : w.cell? ⟨b, o, none⟩ = some (.int .i64 7)) 
    (hC0 : Calls Tryz.prog 179 #[.pointer (some ⟨e, 0, none⟩), .string key, .iface 44 (.agg #[.pointer (some ⟨b, o, none⟩), .int .i64 1])] w fun ev w' => ev = .returned (.tuple #[]) ∧ R w') :
    Calls Tryz.prog 150 #[.pointer (some ⟨e, 0, none⟩), .string key, .pointer (some ⟨b, o, none⟩)] w fun ev w' => ev = .returned (.tuple #[]) ∧ R w' := by
  have hC := Lib.hid hC0
  clear hC0
  go_enter Tryz.func150, Tryz.ntmps150
  go_wp2_with (go_at_call 179; refine hC.out.mono ?_; rintro ev w2 ⟨rfl, hR⟩; have hRH := Lib.hid hR; clear hR)
  first | go_end0 | refine bodyPost_ret (results_none rfl _ _ _) rfl ?_
  exact ⟨rfl, hRH.out⟩


end Go.Proofs.YtokmkkkanphihaaGreatRDoor
