/- The encoder's Encode methods behind a sink, and impl.encoded (written by genEn.py). -/
import Derived.Test.YtokmkkkanphihaaGreatRDoorSinkB
import Derived.Test.YtokmkkkanphihaaGreatRDoorEncR
namespace Go.Proofs.YtokmkkkanphihaaGreatRDoor
open Go.RowKit Go.Sort

/-- An encoder whose buffer is empty, its sink, what was sent. -/
def sinkV (S : Nat) : Value := .iface 54 (.pointer (some ⟨S, 0, none⟩))

set_option maxHeartbeats 1600000 in
set_option maxRecDepth 100000 in
theorem Encode_Bool {w0 w : World} {N e S : Nat} {sent T : List UInt8} {v : Bool} (h : SE w0 N e S (st0 (sinkV S)) sent w) (hT : 0 < T.length) (hlen : sent.length + T.length ≤ lim)
    (hC : ∀ bb, EncF w bb N e (st0 (sinkV S)) w → Base w bb N → Calls Tryz.prog 53 #[.pointer (some ⟨e, 0, none⟩), .bool v] w (EncV w bb N e ((st0 (sinkV S)).add T))) :
    Calls Tryz.prog 40 #[.pointer (some ⟨e, 0, none⟩), .bool v] w fun ev w' => ev = .returned .nilIface ∧ SE w0 N e S (st0 (sinkV S)) (sent ++ T) w' := by
  obtain ⟨bb, hE, hB, hlift⟩ := h.encF
  have hCH := Lib.hid (hC bb hE hB)
  have hlH := Lib.hid hlift
  have hTH := Lib.hid hT
  have hlenH := Lib.hid hlen
  obtain ⟨bbX, hEX, hFX⟩ := hE
  obtain ⟨_, _, _, c1, _, _, _, _, _, _⟩ := hEX.cells
  clear hlift hC h hB hEX hFX hT hlen
  go_enter Tryz.func40, Tryz.ntmps40
  go_wp2_with (first
    | (go_at_call 53; refine hCH.out.mono ?_; rintro ev w1 ⟨v1, rfl, hE1, _⟩; have hSE := Lib.hid (hlH.out _ _ hE1); clear hE1)
    | (go_at_call 68; refine (Write_any hSE.out rfl (by simpa [st0] using hTH.out) (by simpa [st0] using hlenH.out)).mono ?_; rintro ev w2 ⟨rfl, hS2⟩; have hS2H := Lib.hid hS2; clear hS2)
    )
  go_ret
  refine ⟨rfl, ?_⟩
  have h9 := hS2H.out
  simpa [St.add, st0] using h9

set_option maxHeartbeats 1600000 in
set_option maxRecDepth 100000 in
theorem Encode_Int64 {w0 w : World} {N e S : Nat} {sent T : List UInt8} {v : Int} (h : SE w0 N e S (st0 (sinkV S)) sent w) (hT : 0 < T.length) (hlen : sent.length + T.length ≤ lim)
    (hC : ∀ bb, EncF w bb N e (st0 (sinkV S)) w → Base w bb N → Calls Tryz.prog 55 #[.pointer (some ⟨e, 0, none⟩), .int .i64 v] w (EncV w bb N e ((st0 (sinkV S)).add T))) :
    Calls Tryz.prog 41 #[.pointer (some ⟨e, 0, none⟩), .int .i64 v] w fun ev w' => ev = .returned .nilIface ∧ SE w0 N e S (st0 (sinkV S)) (sent ++ T) w' := by
  obtain ⟨bb, hE, hB, hlift⟩ := h.encF
  have hCH := Lib.hid (hC bb hE hB)
  have hlH := Lib.hid hlift
  have hTH := Lib.hid hT
  have hlenH := Lib.hid hlen
  obtain ⟨bbX, hEX, hFX⟩ := hE
  obtain ⟨_, _, _, c1, _, _, _, _, _, _⟩ := hEX.cells
  clear hlift hC h hB hEX hFX hT hlen
  go_enter Tryz.func41, Tryz.ntmps41
  go_wp2_with (first
    | (go_at_call 55; refine hCH.out.mono ?_; rintro ev w1 ⟨v1, rfl, hE1, _⟩; have hSE := Lib.hid (hlH.out _ _ hE1); clear hE1)
    | (go_at_call 68; refine (Write_any hSE.out rfl (by simpa [st0] using hTH.out) (by simpa [st0] using hlenH.out)).mono ?_; rintro ev w2 ⟨rfl, hS2⟩; have hS2H := Lib.hid hS2; clear hS2)
    )
  go_ret
  refine ⟨rfl, ?_⟩
  have h9 := hS2H.out
  simpa [St.add, st0] using h9

set_option maxHeartbeats 1600000 in
set_option maxRecDepth 100000 in
theorem Encode_Float {w0 w : World} {N e S : Nat} {sent T : List UInt8} {v : Nat} (h : SE w0 N e S (st0 (sinkV S)) sent w) (hT : 0 < T.length) (hlen : sent.length + T.length ≤ lim)
    (hC : ∀ bb, EncF w bb N e (st0 (sinkV S)) w → Base w bb N → Calls Tryz.prog 56 #[.pointer (some ⟨e, 0, none⟩), .float .f64 v] w (EncV w bb N e ((st0 (sinkV S)).add T))) :
    Calls Tryz.prog 42 #[.pointer (some ⟨e, 0, none⟩), .float .f64 v] w fun ev w' => ev = .returned .nilIface ∧ SE w0 N e S (st0 (sinkV S)) (sent ++ T) w' := by
  obtain ⟨bb, hE, hB, hlift⟩ := h.encF
  have hCH := Lib.hid (hC bb hE hB)
  have hlH := Lib.hid hlift
  have hTH := Lib.hid hT
  have hlenH := Lib.hid hlen
  obtain ⟨bbX, hEX, hFX⟩ := hE
  obtain ⟨_, _, _, c1, _, _, _, _, _, _⟩ := hEX.cells
  clear hlift hC h hB hEX hFX hT hlen
  go_enter Tryz.func42, Tryz.ntmps42
  go_wp2_with (first
    | (go_at_call 56; refine hCH.out.mono ?_; rintro ev w1 ⟨v1, rfl, hE1, _⟩; have hSE := Lib.hid (hlH.out _ _ hE1); clear hE1)
    | (go_at_call 68; refine (Write_any hSE.out rfl (by simpa [st0] using hTH.out) (by simpa [st0] using hlenH.out)).mono ?_; rintro ev w2 ⟨rfl, hS2⟩; have hS2H := Lib.hid hS2; clear hS2)
    )
  go_ret
  refine ⟨rfl, ?_⟩
  have h9 := hS2H.out
  simpa [St.add, st0] using h9

set_option maxHeartbeats 1600000 in
set_option maxRecDepth 100000 in
theorem Encode_String {w0 w : World} {N e S : Nat} {sent T : List UInt8} {v : ByteArray} (h : SE w0 N e S (st0 (sinkV S)) sent w) (hT : 0 < T.length) (hlen : sent.length + T.length ≤ lim)
    (hC : ∀ bb, EncF w bb N e (st0 (sinkV S)) w → Base w bb N → Calls Tryz.prog 52 #[.pointer (some ⟨e, 0, none⟩), .string v] w (EncV w bb N e ((st0 (sinkV S)).add T))) :
    Calls Tryz.prog 43 #[.pointer (some ⟨e, 0, none⟩), .string v] w fun ev w' => ev = .returned .nilIface ∧ SE w0 N e S (st0 (sinkV S)) (sent ++ T) w' := by
  obtain ⟨bb, hE, hB, hlift⟩ := h.encF
  have hCH := Lib.hid (hC bb hE hB)
  have hlH := Lib.hid hlift
  have hTH := Lib.hid hT
  have hlenH := Lib.hid hlen
  obtain ⟨bbX, hEX, hFX⟩ := hE
  obtain ⟨_, _, _, c1, _, _, _, _, _, _⟩ := hEX.cells
  clear hlift hC h hB hEX hFX hT hlen
  go_enter Tryz.func43, Tryz.ntmps43
  go_wp2_with (first
    | (go_at_call 52; refine hCH.out.mono ?_; rintro ev w1 ⟨v1, rfl, hE1, _⟩; have hSE := Lib.hid (hlH.out _ _ hE1); clear hE1)
    | (go_at_call 68; refine (Write_any hSE.out rfl (by simpa [st0] using hTH.out) (by simpa [st0] using hlenH.out)).mono ?_; rintro ev w2 ⟨rfl, hS2⟩; have hS2H := Lib.hid hS2; clear hS2)
    )
  go_ret
  refine ⟨rfl, ?_⟩
  have h9 := hS2H.out
  simpa [St.add, st0] using h9

set_option maxHeartbeats 1600000 in
set_option maxRecDepth 100000 in
theorem Encode_Array {w0 w : World} {N e S : Nat} {sent T : List UInt8} {b o : Nat} (h : SE w0 N e S (st0 (sinkV S)) sent w) (hT : 0 < T.length) (hlen : sent.length + T.length ≤ lim)
    (hC : ∀ bb, EncF w bb N e (st0 (sinkV S)) w → Base w bb N → Calls Tryz.prog 51 #[.pointer (some ⟨e, 0, none⟩), .iface 44 (.agg #[.pointer (some ⟨b, o, none⟩), .int .i64 0])] w (EncV w bb N e ((st0 (sinkV S)).add T))) :
    Calls Tryz.prog 44 #[.pointer (some ⟨e, 0, none⟩), .iface 44 (.agg #[.pointer (some ⟨b, o, none⟩), .int .i64 0])] w fun ev w' => ev = .returned .nilIface ∧ SE w0 N e S (st0 (sinkV S)) (sent ++ T) w' := by
  obtain ⟨bb, hE, hB, hlift⟩ := h.encF
  have hCH := Lib.hid (hC bb hE hB)
  have hlH := Lib.hid hlift
  have hTH := Lib.hid hT
  have hlenH := Lib.hid hlen
  obtain ⟨bbX, hEX, hFX⟩ := hE
  obtain ⟨_, _, _, c1, _, _, _, _, _, _⟩ := hEX.cells
  clear hlift hC h hB hEX hFX hT hlen
  go_enter Tryz.func44, Tryz.ntmps44
  go_wp2_with (first
    | (go_at_call 51; refine hCH.out.mono ?_; rintro ev w1 ⟨v1, rfl, hE1, _⟩; have hSE := Lib.hid (hlH.out _ _ hE1); clear hE1)
    | (go_at_call 68; refine (Write_any hSE.out rfl (by simpa [st0] using hTH.out) (by simpa [st0] using hlenH.out)).mono ?_; rintro ev w2 ⟨rfl, hS2⟩; have hS2H := Lib.hid hS2; clear hS2)
    )
  go_ret
  refine ⟨rfl, ?_⟩
  have h9 := hS2H.out
  simpa [St.add, st0] using h9

set_option maxHeartbeats 1600000 in
set_option maxRecDepth 100000 in
theorem Encode_Object {w0 w : World} {N e S : Nat} {sent T : List UInt8} {b o : Nat} (h : SE w0 N e S (st0 (sinkV S)) sent w) (hT : 0 < T.length) (hlen : sent.length + T.length ≤ lim)
    (hC : ∀ bb, EncF w bb N e (st0 (sinkV S)) w → Base w bb N → Calls Tryz.prog 35 #[.pointer (some ⟨e, 0, none⟩), .iface 44 (.agg #[.pointer (some ⟨b, o, none⟩), .int .i64 0])] w (EncV w bb N e ((st0 (sinkV S)).add T))) :
    Calls Tryz.prog 45 #[.pointer (some ⟨e, 0, none⟩), .iface 44 (.agg #[.pointer (some ⟨b, o, none⟩), .int .i64 0])] w fun ev w' => ev = .returned .nilIface ∧ SE w0 N e S (st0 (sinkV S)) (sent ++ T) w' := by
  obtain ⟨bb, hE, hB, hlift⟩ := h.encF
  have hCH := Lib.hid (hC bb hE hB)
  have hlH := Lib.hid hlift
  have hTH := Lib.hid hT
  have hlenH := Lib.hid hlen
  obtain ⟨bbX, hEX, hFX⟩ := hE
  obtain ⟨_, _, _, c1, _, _, _, _, _, _⟩ := hEX.cells
  clear hlift hC h hB hEX hFX hT hlen
  go_enter Tryz.func45, Tryz.ntmps45
  go_wp2_with (first
    | (go_at_call 35; refine hCH.out.mono ?_; rintro ev w1 ⟨v1, rfl, hE1, _⟩; have hSE := Lib.hid (hlH.out _ _ hE1); clear hE1)
    | (go_at_call 68; refine (Write_any hSE.out rfl (by simpa [st0] using hTH.out) (by simpa [st0] using hlenH.out)).mono ?_; rintro ev w2 ⟨rfl, hS2⟩; have hS2H := Lib.hid hS2; clear hS2)
    )
  go_ret
  refine ⟨rfl, ?_⟩
  have h9 := hS2H.out
  simpa [St.add, st0] using h9

set_option maxHeartbeats 800000 in
set_option maxRecDepth 100000 in
theorem encoded_2 {w : World} {b o e : Nat} {i : Int} {R : World → Prop} (h0 : w.cell? ⟨b, o, none⟩ = some (.int .i64 2)) (h1 : w.cell? ⟨b, o + 1, none⟩ = some (.int .i64 i)) 
    (hC0 : Calls Tryz.prog 40 #[.pointer (some ⟨e, 0, none⟩), .bool (i == 1)] w fun ev w' => ev = .returned .nilIface ∧ R w') :
    Calls Tryz.prog 26 #[.pointer (some ⟨e, 0, none⟩), .pointer (some ⟨b, o, none⟩)] w fun ev w' => ev = .returned .nilIface ∧ R w' := by
  have hC := Lib.hid hC0
  clear hC0
  go_enter Tryz.func26, Tryz.ntmps26
  go_wp2_with (go_at_call 40; refine hC.out.mono ?_; rintro ev w2 ⟨rfl, hR⟩; have hRH := Lib.hid hR; clear hR)
  go_ret
  exact ⟨rfl, hRH.out⟩

set_option maxHeartbeats 800000 in
set_option maxRecDepth 100000 in
theorem encoded_3 {w : World} {b o e : Nat} {i : Int} {R : World → Prop} (h0 : w.cell? ⟨b, o, none⟩ = some (.int .i64 3)) (h1 : w.cell? ⟨b, o + 1, none⟩ = some (.int .i64 i)) 
    (hC0 : Calls Tryz.prog 41 #[.pointer (some ⟨e, 0, none⟩), .int .i64 i] w fun ev w' => ev = .returned .nilIface ∧ R w') :
    Calls Tryz.prog 26 #[.pointer (some ⟨e, 0, none⟩), .pointer (some ⟨b, o, none⟩)] w fun ev w' => ev = .returned .nilIface ∧ R w' := by
  have hC := Lib.hid hC0
  clear hC0
  go_enter Tryz.func26, Tryz.ntmps26
  go_wp2_with (go_at_call 41; refine hC.out.mono ?_; rintro ev w2 ⟨rfl, hR⟩; have hRH := Lib.hid hR; clear hR)
  go_ret
  exact ⟨rfl, hRH.out⟩

set_option maxHeartbeats 800000 in
set_option maxRecDepth 100000 in
theorem encoded_4 {w : World} {b o e : Nat} {r : Nat} {R : World → Prop} (h0 : w.cell? ⟨b, o, none⟩ = some (.int .i64 4)) (h1 : w.cell? ⟨b, o + 2, none⟩ = some (.float .f64 r)) 
    (hC0 : Calls Tryz.prog 42 #[.pointer (some ⟨e, 0, none⟩), .float .f64 r] w fun ev w' => ev = .returned .nilIface ∧ R w') :
    Calls Tryz.prog 26 #[.pointer (some ⟨e, 0, none⟩), .pointer (some ⟨b, o, none⟩)] w fun ev w' => ev = .returned .nilIface ∧ R w' := by
  have hC := Lib.hid hC0
  clear hC0
  go_enter Tryz.func26, Tryz.ntmps26
  go_wp2_with (go_at_call 42; refine hC.out.mono ?_; rintro ev w2 ⟨rfl, hR⟩; have hRH := Lib.hid hR; clear hR)
  go_ret
  exact ⟨rfl, hRH.out⟩

set_option maxHeartbeats 800000 in
set_option maxRecDepth 100000 in
theorem encoded_5 {w : World} {b o e : Nat} {t : ByteArray} {R : World → Prop} (h0 : w.cell? ⟨b, o, none⟩ = some (.int .i64 5)) (h1 : w.cell? ⟨b, o + 3, none⟩ = some (.string t)) 
    (hC0 : Calls Tryz.prog 43 #[.pointer (some ⟨e, 0, none⟩), .string t] w fun ev w' => ev = .returned .nilIface ∧ R w') :
    Calls Tryz.prog 26 #[.pointer (some ⟨e, 0, none⟩), .pointer (some ⟨b, o, none⟩)] w fun ev w' => ev = .returned .nilIface ∧ R w' := by
  have hC := Lib.hid hC0
  clear hC0
  go_enter Tryz.func26, Tryz.ntmps26
  go_wp2_with (go_at_call 43; refine hC.out.mono ?_; rintro ev w2 ⟨rfl, hR⟩; have hRH := Lib.hid hR; clear hR)
  go_ret
  exact ⟨rfl, hRH.out⟩

set_option maxHeartbeats 800000 in
set_option maxRecDepth 100000 in
theorem encoded_6 {w : World} {b o e : Nat} {R : World → Prop} (h0 : w.cell? ⟨b, o, none⟩ = some (.int .i64 6)) 
    (hC0 : Calls Tryz.prog 44 #[.pointer (some ⟨e, 0, none⟩), .iface 44 (.agg #[.pointer (some ⟨b, o, none⟩), .int .i64 0])] w fun ev w' => ev = .returned .nilIface ∧ R w') :
    Calls Tryz.prog 26 #[.pointer (some ⟨e, 0, none⟩), .pointer (some ⟨b, o, none⟩)] w fun ev w' => ev = .returned .nilIface ∧ R w' := by
  have hC := Lib.hid hC0
  clear hC0
  go_enter Tryz.func26, Tryz.ntmps26
  go_wp2_with (go_at_call 44; refine hC.out.mono ?_; rintro ev w2 ⟨rfl, hR⟩; have hRH := Lib.hid hR; clear hR)
  go_ret
  exact ⟨rfl, hRH.out⟩

set_option maxHeartbeats 800000 in
set_option maxRecDepth 100000 in
theorem encoded_7 {w : World} {b o e : Nat} {R : World → Prop} (h0 : w.cell? ⟨b, o, none⟩ = some (.int .i64 7)) 
    (hC0 : Calls Tryz.prog 45 #[.pointer (some ⟨e, 0, none⟩), .iface 44 (.agg #[.pointer (some ⟨b, o, none⟩), .int .i64 0])] w fun ev w' => ev = .returned .nilIface ∧ R w') :
    Calls Tryz.prog 26 #[.pointer (some ⟨e, 0, none⟩), .pointer (some ⟨b, o, none⟩)] w fun ev w' => ev = .returned .nilIface ∧ R w' := by
  have hC := Lib.hid hC0
  clear hC0
  go_enter Tryz.func26, Tryz.ntmps26
  go_wp2_with (go_at_call 45; refine hC.out.mono ?_; rintro ev w2 ⟨rfl, hR⟩; have hRH := Lib.hid hR; clear hR)
  go_ret
  exact ⟨rfl, hRH.out⟩

end Go.Proofs.YtokmkkkanphihaaGreatRDoor
