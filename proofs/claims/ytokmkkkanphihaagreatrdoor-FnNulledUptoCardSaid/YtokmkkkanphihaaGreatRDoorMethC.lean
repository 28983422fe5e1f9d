/- The encoder's doors that leave out, or write null for, what is empty (written by genM2.py). -/
import Derived.Test.YtokmkkkanphihaaGreatRDoorMeth
namespace Go.Proofs.YtokmkkkanphihaaGreatRDoor
open Go.RowKit Go.Sort

set_option maxHeartbeats 3200000 in
set_option maxRecDepth 100000 in
theorem BoolNull0_a {w0 w : World} {b0 : Option Nat} {N e : Nat} {s : St} {l : List UInt8}  (_ : Base w0 b0 N) (h : EncF w0 b0 N e s w) (ho : s.out = l ++ [91]) (hlen : s.out.length + 200 ≤ lim) :
    Calls Tryz.prog 161 #[.pointer (some ⟨e, 0, none⟩), .bool false] w fun ev w' => ev = .returned (.tuple #[]) ∧ EncF w0 b0 N e (s.add ([110, 117, 108, 108])) w' := by
  have hE0H := Lib.hid h
  have hl := Lib.hid hlen
  have hb5 : 200 ≤ 1099511627776 := by have : s.out.length + 200 ≤ 1099511627776 := hlen; omega
  have hesc := Lib.hid True.intro
  clear h hlen
  go_enter Tryz.func161, Tryz.ntmps161
  go_wp2_with (first
    | (go_at_call 30; refine (grow_at _ (5) (by omega) hE0H.out (by unfold lim; omega) (Nat.le_trans (by have := hesc.out; first | omega | (simp; done) | (simp; omega)) hl.out)).mono ?_; rintro ev w1 ⟨rfl, hE1⟩; have hE1H := Lib.hid hE1; clear hE1 hE0H)
    | (go_at_call 195; refine (getPreviousRune_any hE1H.out (by first | exact ho | simpa only [St.add_nil] using ho) (Nat.le_trans (by have := hesc.out; first | omega | (simp; done) | (simp; omega)) hl.out)).mono ?_; rintro ev wp ⟨rfl, rfl⟩)
    | (go_at_call 70; refine (writeString_at ⟨#[110, 117, 108, 108]⟩ 4 rfl hE1H.out (by decide) (Nat.le_trans (by have := hesc.out; first | omega | (simp; done) | (simp; omega)) hl.out)).mono ?_; rintro ev w2 ⟨rfl, hE2⟩; have hE2H := Lib.hid hE2; clear hE2 hE1H)
    )
  first | go_end0 | refine bodyPost_ret (results_none rfl _ _ _) rfl ?_
  refine ⟨rfl, ?_⟩
  have hz := hE2H.out
  exact hz.cast (by simp [St.add])

set_option maxHeartbeats 3200000 in
set_option maxRecDepth 100000 in
theorem BoolNull0_b {w0 w : World} {b0 : Option Nat} {N e : Nat} {s : St} {l : List UInt8}  (_ : Base w0 b0 N) (h : EncF w0 b0 N e s w) {c : UInt8} (hc : c ≠ 91) (ho : s.out = l ++ [c]) (hlen : s.out.length + 200 ≤ lim) :
    Calls Tryz.prog 161 #[.pointer (some ⟨e, 0, none⟩), .bool false] w fun ev w' => ev = .returned (.tuple #[]) ∧ EncF w0 b0 N e (s.add ([44] ++ [110, 117, 108, 108])) w' := by
  have hE0H := Lib.hid h
  have hl := Lib.hid hlen
  have hb5 : 200 ≤ 1099511627776 := by have : s.out.length + 200 ≤ 1099511627776 := hlen; omega
  have hesc := Lib.hid True.intro
  clear h hlen
  have hcn : (((c.toNat : Nat) : Int) != 91) = true := by
    rw [bne_iff_ne]
    intro hx
    apply hc
    apply UInt8.toNat_inj.1
    have h9 : (91 : UInt8).toNat = 91 := rfl
    rw [h9]
    omega
  go_enter Tryz.func161, Tryz.ntmps161
  go_wp2_with (first
    | (go_at_call 30; refine (grow_at _ (5) (by omega) hE0H.out (by unfold lim; omega) (Nat.le_trans (by have := hesc.out; first | omega | (simp; done) | (simp; omega)) hl.out)).mono ?_; rintro ev w1 ⟨rfl, hE1⟩; have hE1H := Lib.hid hE1; clear hE1 hE0H)
    | (go_at_call 195; refine (getPreviousRune_any hE1H.out (by first | exact ho | simpa only [St.add_nil] using ho) (Nat.le_trans (by have := hesc.out; first | omega | (simp; done) | (simp; omega)) hl.out)).mono ?_; rintro ev wp ⟨rfl, rfl⟩)
    | (go_at_call 31; refine (writeByte_any 44 hE1H.out (Nat.le_trans (by have := hesc.out; first | omega | (simp; done) | (simp; omega)) hl.out)).mono ?_; rintro ev w2 ⟨rfl, hE2⟩; have hE2H := Lib.hid hE2; clear hE2 hE1H)
    | (go_at_call 70; refine (writeString_at ⟨#[110, 117, 108, 108]⟩ 4 rfl hE2H.out (by decide) (Nat.le_trans (by have := hesc.out; first | omega | (simp; done) | (simp; omega)) hl.out)).mono ?_; rintro ev w3 ⟨rfl, hE3⟩; have hE3H := Lib.hid hE3; clear hE3 hE2H)
    )
  first | go_end0 | refine bodyPost_ret (results_none rfl _ _ _) rfl ?_
  refine ⟨rfl, ?_⟩
  have hz := hE3H.out
  exact hz.cast (by simp [St.add])

set_option maxHeartbeats 3200000 in
set_option maxRecDepth 100000 in
theorem BoolNull_a {w0 w : World} {b0 : Option Nat} {N e : Nat} {s : St} {l : List UInt8}  (_ : Base w0 b0 N) (h : EncF w0 b0 N e s w) (ho : s.out = l ++ [91]) (hlen : s.out.length + 200 ≤ lim) :
    Calls Tryz.prog 161 #[.pointer (some ⟨e, 0, none⟩), .bool true] w fun ev w' => ev = .returned (.tuple #[]) ∧ EncF w0 b0 N e (s.add ([116, 114, 117, 101])) w' := by
  have hE0H := Lib.hid h
  have hl := Lib.hid hlen
  have hb5 : 200 ≤ 1099511627776 := by have : s.out.length + 200 ≤ 1099511627776 := hlen; omega
  have hesc := Lib.hid True.intro
  clear h hlen
  go_enter Tryz.func161, Tryz.ntmps161
  go_wp2_with (first
    | (go_at_call 30; refine (grow_at _ (5) (by omega) hE0H.out (by unfold lim; omega) (Nat.le_trans (by have := hesc.out; first | omega | (simp; done) | (simp; omega)) hl.out)).mono ?_; rintro ev w1 ⟨rfl, hE1⟩; have hE1H := Lib.hid hE1; clear hE1 hE0H)
    | (go_at_call 195; refine (getPreviousRune_any hE1H.out (by first | exact ho | simpa only [St.add_nil] using ho) (Nat.le_trans (by have := hesc.out; first | omega | (simp; done) | (simp; omega)) hl.out)).mono ?_; rintro ev wp ⟨rfl, rfl⟩)
    | (go_at_call 70; refine (writeString_at ⟨#[116, 114, 117, 101]⟩ 4 rfl hE1H.out (by decide) (Nat.le_trans (by have := hesc.out; first | omega | (simp; done) | (simp; omega)) hl.out)).mono ?_; rintro ev w2 ⟨rfl, hE2⟩; have hE2H := Lib.hid hE2; clear hE2 hE1H)
    )
  first | go_end0 | refine bodyPost_ret (results_none rfl _ _ _) rfl ?_
  refine ⟨rfl, ?_⟩
  have hz := hE2H.out
  exact hz.cast (by simp [St.add])

set_option maxHeartbeats 3200000 in
set_option maxRecDepth 100000 in
theorem BoolNull_b {w0 w : World} {b0 : Option Nat} {N e : Nat} {s : St} {l : List UInt8}  (_ : Base w0 b0 N) (h : EncF w0 b0 N e s w) {c : UInt8} (hc : c ≠ 91) (ho : s.out = l ++ [c]) (hlen : s.out.length + 200 ≤ lim) :
    Calls Tryz.prog 161 #[.pointer (some ⟨e, 0, none⟩), .bool true] w fun ev w' => ev = .returned (.tuple #[]) ∧ EncF w0 b0 N e (s.add ([44] ++ [116, 114, 117, 101])) w' := by
  have hE0H := Lib.hid h
  have hl := Lib.hid hlen
  have hb5 : 200 ≤ 1099511627776 := by have : s.out.length + 200 ≤ 1099511627776 := hlen; omega
  have hesc := Lib.hid True.intro
  clear h hlen
  have hcn : (((c.toNat : Nat) : Int) != 91) = true := by
    rw [bne_iff_ne]
    intro hx
    apply hc
    apply UInt8.toNat_inj.1
    have h9 : (91 : UInt8).toNat = 91 := rfl
    rw [h9]
    omega
  go_enter Tryz.func161, Tryz.ntmps161
  go_wp2_with (first
    | (go_at_call 30; refine (grow_at _ (5) (by omega) hE0H.out (by unfold lim; omega) (Nat.le_trans (by have := hesc.out; first | omega | (simp; done) | (simp; omega)) hl.out)).mono ?_; rintro ev w1 ⟨rfl, hE1⟩; have hE1H := Lib.hid hE1; clear hE1 hE0H)
    | (go_at_call 195; refine (getPreviousRune_any hE1H.out (by first | exact ho | simpa only [St.add_nil] using ho) (Nat.le_trans (by have := hesc.out; first | omega | (simp; done) | (simp; omega)) hl.out)).mono ?_; rintro ev wp ⟨rfl, rfl⟩)
    | (go_at_call 31; refine (writeByte_any 44 hE1H.out (Nat.le_trans (by have := hesc.out; first | omega | (simp; done) | (simp; omega)) hl.out)).mono ?_; rintro ev w2 ⟨rfl, hE2⟩; have hE2H := Lib.hid hE2; clear hE2 hE1H)
    | (go_at_call 70; refine (writeString_at ⟨#[116, 114, 117, 101]⟩ 4 rfl hE2H.out (by decide) (Nat.le_trans (by have := hesc.out; first | omega | (simp; done) | (simp; omega)) hl.out)).mono ?_; rintro ev w3 ⟨rfl, hE3⟩; have hE3H := Lib.hid hE3; clear hE3 hE2H)
    )
  first | go_end0 | refine bodyPost_ret (results_none rfl _ _ _) rfl ?_
  refine ⟨rfl, ?_⟩
  have hz := hE3H.out
  exact hz.cast (by simp [St.add])

set_option maxHeartbeats 3200000 in
set_option maxRecDepth 100000 in
theorem Int64Null0_a {w0 w : World} {b0 : Option Nat} {N e : Nat} {s : St} {l : List UInt8}  (_ : Base w0 b0 N) (h : EncF w0 b0 N e s w) (ho : s.out = l ++ [91]) (hlen : s.out.length + 200 ≤ lim) :
    Calls Tryz.prog 162 #[.pointer (some ⟨e, 0, none⟩), .int .i64 0] w fun ev w' => ev = .returned (.tuple #[]) ∧ EncF w0 b0 N e (s.add ([110, 117, 108, 108])) w' := by
  have hE0H := Lib.hid h
  have hl := Lib.hid hlen
  have hb5 : 200 ≤ 1099511627776 := by have : s.out.length + 200 ≤ 1099511627776 := hlen; omega
  have hesc := Lib.hid True.intro
  clear h hlen
  go_enter Tryz.func162, Tryz.ntmps162
  go_wp2_with (first
    | (go_at_call 30; refine (grow_at _ (10) (by omega) hE0H.out (by unfold lim; omega) (Nat.le_trans (by have := hesc.out; first | omega | (simp; done) | (simp; omega)) hl.out)).mono ?_; rintro ev w1 ⟨rfl, hE1⟩; have hE1H := Lib.hid hE1; clear hE1 hE0H)
    | (go_at_call 195; refine (getPreviousRune_any hE1H.out (by first | exact ho | simpa only [St.add_nil] using ho) (Nat.le_trans (by have := hesc.out; first | omega | (simp; done) | (simp; omega)) hl.out)).mono ?_; rintro ev wp ⟨rfl, rfl⟩)
    | (go_at_call 70; refine (writeString_at ⟨#[110, 117, 108, 108]⟩ 4 rfl hE1H.out (by decide) (Nat.le_trans (by have := hesc.out; first | omega | (simp; done) | (simp; omega)) hl.out)).mono ?_; rintro ev w2 ⟨rfl, hE2⟩; have hE2H := Lib.hid hE2; clear hE2 hE1H)
    )
  first | go_end0 | refine bodyPost_ret (results_none rfl _ _ _) rfl ?_
  refine ⟨rfl, ?_⟩
  have hz := hE2H.out
  exact hz.cast (by simp [St.add])

set_option maxHeartbeats 3200000 in
set_option maxRecDepth 100000 in
theorem Int64Null0_b {w0 w : World} {b0 : Option Nat} {N e : Nat} {s : St} {l : List UInt8}  (_ : Base w0 b0 N) (h : EncF w0 b0 N e s w) {c : UInt8} (hc : c ≠ 91) (ho : s.out = l ++ [c]) (hlen : s.out.length + 200 ≤ lim) :
    Calls Tryz.prog 162 #[.pointer (some ⟨e, 0, none⟩), .int .i64 0] w fun ev w' => ev = .returned (.tuple #[]) ∧ EncF w0 b0 N e (s.add ([44] ++ [110, 117, 108, 108])) w' := by
  have hE0H := Lib.hid h
  have hl := Lib.hid hlen
  have hb5 : 200 ≤ 1099511627776 := by have : s.out.length + 200 ≤ 1099511627776 := hlen; omega
  have hesc := Lib.hid True.intro
  clear h hlen
  have hcn : (((c.toNat : Nat) : Int) != 91) = true := by
    rw [bne_iff_ne]
    intro hx
    apply hc
    apply UInt8.toNat_inj.1
    have h9 : (91 : UInt8).toNat = 91 := rfl
    rw [h9]
    omega
  go_enter Tryz.func162, Tryz.ntmps162
  go_wp2_with (first
    | (go_at_call 30; refine (grow_at _ (10) (by omega) hE0H.out (by unfold lim; omega) (Nat.le_trans (by have := hesc.out; first | omega | (simp; done) | (simp; omega)) hl.out)).mono ?_; rintro ev w1 ⟨rfl, hE1⟩; have hE1H := Lib.hid hE1; clear hE1 hE0H)
    | (go_at_call 195; refine (getPreviousRune_any hE1H.out (by first | exact ho | simpa only [St.add_nil] using ho) (Nat.le_trans (by have := hesc.out; first | omega | (simp; done) | (simp; omega)) hl.out)).mono ?_; rintro ev wp ⟨rfl, rfl⟩)
    | (go_at_call 31; refine (writeByte_any 44 hE1H.out (Nat.le_trans (by have := hesc.out; first | omega | (simp; done) | (simp; omega)) hl.out)).mono ?_; rintro ev w2 ⟨rfl, hE2⟩; have hE2H := Lib.hid hE2; clear hE2 hE1H)
    | (go_at_call 70; refine (writeString_at ⟨#[110, 117, 108, 108]⟩ 4 rfl hE2H.out (by decide) (Nat.le_trans (by have := hesc.out; first | omega | (simp; done) | (simp; omega)) hl.out)).mono ?_; rintro ev w3 ⟨rfl, hE3⟩; have hE3H := Lib.hid hE3; clear hE3 hE2H)
    )
  first | go_end0 | refine bodyPost_ret (results_none rfl _ _ _) rfl ?_
  refine ⟨rfl, ?_⟩
  have hz := hE3H.out
  exact hz.cast (by simp [St.add])

set_option maxHeartbeats 3200000 in
set_option maxRecDepth 100000 in
theorem Int64Null_a {w0 w : World} {b0 : Option Nat} {N e : Nat} {s : St} {l : List UInt8} {v : Int} (hB : Base w0 b0 N) (h : EncF w0 b0 N e s w) (ho : s.out = l ++ [91]) (hlen : s.out.length + 200 ≤ lim) (hv0 : -9223372036854775808 ≤ v) (hv1 : v ≤ 9223372036854775807) (hz0 : (v == 0) = false) :
    Calls Tryz.prog 162 #[.pointer (some ⟨e, 0, none⟩), .int .i64 v] w fun ev w' => ev = .returned (.tuple #[]) ∧ EncF w0 b0 N e (s.add (Lib.itoa v)) w' := by
  have hE0H := Lib.hid h
  have hl := Lib.hid hlen
  have hb5 : 200 ≤ 1099511627776 := by have : s.out.length + 200 ≤ 1099511627776 := hlen; omega
  have hesc := Lib.hid True.intro
  clear h hlen
  go_enter Tryz.func162, Tryz.ntmps162
  go_wp2_with (first
    | (go_at_call 30; refine (grow_at _ (10) (by omega) hE0H.out (by unfold lim; omega) (Nat.le_trans (by have := hesc.out; first | omega | (simp; done) | (simp; omega)) hl.out)).mono ?_; rintro ev w1 ⟨rfl, hE1⟩; have hE1H := Lib.hid hE1; clear hE1 hE0H)
    | (go_at_call 195; refine (getPreviousRune_any hE1H.out (by first | exact ho | simpa only [St.add_nil] using ho) (Nat.le_trans (by have := hesc.out; first | omega | (simp; done) | (simp; omega)) hl.out)).mono ?_; rintro ev wp ⟨rfl, rfl⟩; obtain ⟨bbX, hEX, hFX⟩ := hE1H.out; obtain ⟨vX, ⟨hownX, hobX⟩, c0X, _, _, _, _, _, hfzX, hesX, hNeX, hNX⟩ := hEX.cells; have f0X := hfzX 0; have hEXH := Lib.hid hEX; have hFXH := Lib.hid hFX; have hobXH := Lib.hid hobX; have hownXH := Lib.hid hownX; have htbX := Lib.hid ((hE1H.out).tabs hB); clear hEX hFX hobX hownX hfzX)
    | (go_at_call 71; refine (AppendInt_any hv0 hv1 hownXH.out hNX (Nat.le_trans (by have := hesc.out; first | omega | (simp; done) | (simp; omega)) hl.out) htbX.out.tab (by intro hx; have h1 := (own_lt hownXH.out _ hx).1; have h2 := htbX.out.g2; omega)).mono ?_; rintro ev wz ⟨vz, rfl, hbz⟩; obtain ⟨aoz, lz, cz, rfl⟩ := own_form hbz.own; have hkz := kept0 hEXH.out hobXH.out hbz 0; rw [c0X, f0X] at hkz; have hfin := Lib.hid (EncF.putTo hEXH.out hFXH.out hobXH.out hbz); obtain ⟨kz0, kz1⟩ := hkz; clear hbz)
    )
  first | go_end0 | refine bodyPost_ret (results_none rfl _ _ _) rfl ?_
  refine ⟨rfl, ?_⟩
  have hz := hfin.out
  exact hz.cast (by simp [St.add])

set_option maxHeartbeats 3200000 in
set_option maxRecDepth 100000 in
theorem Int64Null_b {w0 w : World} {b0 : Option Nat} {N e : Nat} {s : St} {l : List UInt8} {v : Int} (hB : Base w0 b0 N) (h : EncF w0 b0 N e s w) {c : UInt8} (hc : c ≠ 91) (ho : s.out = l ++ [c]) (hlen : s.out.length + 200 ≤ lim) (hv0 : -9223372036854775808 ≤ v) (hv1 : v ≤ 9223372036854775807) (hz0 : (v == 0) = false) :
    Calls Tryz.prog 162 #[.pointer (some ⟨e, 0, none⟩), .int .i64 v] w fun ev w' => ev = .returned (.tuple #[]) ∧ EncF w0 b0 N e (s.add ([44] ++ Lib.itoa v)) w' := by
  have hE0H := Lib.hid h
  have hl := Lib.hid hlen
  have hb5 : 200 ≤ 1099511627776 := by have : s.out.length + 200 ≤ 1099511627776 := hlen; omega
  have hesc := Lib.hid True.intro
  clear h hlen
  have hcn : (((c.toNat : Nat) : Int) != 91) = true := by
    rw [bne_iff_ne]
    intro hx
    apply hc
    apply UInt8.toNat_inj.1
    have h9 : (91 : UInt8).toNat = 91 := rfl
    rw [h9]
    omega
  go_enter Tryz.func162, Tryz.ntmps162
  go_wp2_with (first
    | (go_at_call 30; refine (grow_at _ (10) (by omega) hE0H.out (by unfold lim; omega) (Nat.le_trans (by have := hesc.out; first | omega | (simp; done) | (simp; omega)) hl.out)).mono ?_; rintro ev w1 ⟨rfl, hE1⟩; have hE1H := Lib.hid hE1; clear hE1 hE0H)
    | (go_at_call 195; refine (getPreviousRune_any hE1H.out (by first | exact ho | simpa only [St.add_nil] using ho) (Nat.le_trans (by have := hesc.out; first | omega | (simp; done) | (simp; omega)) hl.out)).mono ?_; rintro ev wp ⟨rfl, rfl⟩)
    | (go_at_call 31; refine (writeByte_any 44 hE1H.out (Nat.le_trans (by have := hesc.out; first | omega | (simp; done) | (simp; omega)) hl.out)).mono ?_; rintro ev w2 ⟨rfl, hE2⟩; have hE2H := Lib.hid hE2; clear hE2 hE1H; obtain ⟨bbX, hEX, hFX⟩ := hE2H.out; obtain ⟨vX, ⟨hownX, hobX⟩, c0X, _, _, _, _, _, hfzX, hesX, hNeX, hNX⟩ := hEX.cells; have f0X := hfzX 0; have hEXH := Lib.hid hEX; have hFXH := Lib.hid hFX; have hobXH := Lib.hid hobX; have hownXH := Lib.hid hownX; have htbX := Lib.hid ((hE2H.out).tabs hB); clear hEX hFX hobX hownX hfzX)
    | (go_at_call 71; refine (AppendInt_any hv0 hv1 hownXH.out hNX (Nat.le_trans (by have := hesc.out; first | omega | (simp; done) | (simp; omega)) hl.out) htbX.out.tab (by intro hx; have h1 := (own_lt hownXH.out _ hx).1; have h2 := htbX.out.g2; omega)).mono ?_; rintro ev wz ⟨vz, rfl, hbz⟩; obtain ⟨aoz, lz, cz, rfl⟩ := own_form hbz.own; have hkz := kept0 hEXH.out hobXH.out hbz 0; rw [c0X, f0X] at hkz; have hfin := Lib.hid (EncF.putTo hEXH.out hFXH.out hobXH.out hbz); obtain ⟨kz0, kz1⟩ := hkz; clear hbz)
    )
  first | go_end0 | refine bodyPost_ret (results_none rfl _ _ _) rfl ?_
  refine ⟨rfl, ?_⟩
  have hz := hfin.out
  exact hz.cast (by simp [St.add])

set_option maxHeartbeats 3200000 in
set_option maxRecDepth 100000 in
theorem Float64Null0_a {w0 w : World} {b0 : Option Nat} {N e : Nat} {s : St} {l : List UInt8} {v : Nat} (_ : Base w0 b0 N) (h : EncF w0 b0 N e s w) (ho : s.out = l ++ [91]) (hlen : s.out.length + 200 ≤ lim) (hz0 : (FloatKind.f64.format.order v 0 == some .eq) = true) :
    Calls Tryz.prog 163 #[.pointer (some ⟨e, 0, none⟩), .float .f64 v] w fun ev w' => ev = .returned (.tuple #[]) ∧ EncF w0 b0 N e (s.add ([110, 117, 108, 108])) w' := by
  have hE0H := Lib.hid h
  have hl := Lib.hid hlen
  have hb5 : 200 ≤ 1099511627776 := by have : s.out.length + 200 ≤ 1099511627776 := hlen; omega
  have hesc := Lib.hid True.intro
  clear h hlen
  go_enter Tryz.func163, Tryz.ntmps163
  go_wp2_with (first
    | (go_at_call 30; refine (grow_at _ (10) (by omega) hE0H.out (by unfold lim; omega) (Nat.le_trans (by have := hesc.out; first | omega | (simp; done) | (simp; omega)) hl.out)).mono ?_; rintro ev w1 ⟨rfl, hE1⟩; have hE1H := Lib.hid hE1; clear hE1 hE0H)
    | (go_at_call 195; refine (getPreviousRune_any hE1H.out (by first | exact ho | simpa only [St.add_nil] using ho) (Nat.le_trans (by have := hesc.out; first | omega | (simp; done) | (simp; omega)) hl.out)).mono ?_; rintro ev wp ⟨rfl, rfl⟩)
    | (go_at_call 70; refine (writeString_at ⟨#[110, 117, 108, 108]⟩ 4 rfl hE1H.out (by decide) (Nat.le_trans (by have := hesc.out; first | omega | (simp; done) | (simp; omega)) hl.out)).mono ?_; rintro ev w2 ⟨rfl, hE2⟩; have hE2H := Lib.hid hE2; clear hE2 hE1H)
    )
  first | go_end0 | refine bodyPost_ret (results_none rfl _ _ _) rfl ?_
  refine ⟨rfl, ?_⟩
  have hz := hE2H.out
  exact hz.cast (by simp [St.add])

set_option maxHeartbeats 3200000 in
set_option maxRecDepth 100000 in
theorem Float64Null0_b {w0 w : World} {b0 : Option Nat} {N e : Nat} {s : St} {l : List UInt8} {v : Nat} (_ : Base w0 b0 N) (h : EncF w0 b0 N e s w) {c : UInt8} (hc : c ≠ 91) (ho : s.out = l ++ [c]) (hlen : s.out.length + 200 ≤ lim) (hz0 : (FloatKind.f64.format.order v 0 == some .eq) = true) :
    Calls Tryz.prog 163 #[.pointer (some ⟨e, 0, none⟩), .float .f64 v] w fun ev w' => ev = .returned (.tuple #[]) ∧ EncF w0 b0 N e (s.add ([44] ++ [110, 117, 108, 108])) w' := by
  have hE0H := Lib.hid h
  have hl := Lib.hid hlen
  have hb5 : 200 ≤ 1099511627776 := by have : s.out.length + 200 ≤ 1099511627776 := hlen; omega
  have hesc := Lib.hid True.intro
  clear h hlen
  have hcn : (((c.toNat : Nat) : Int) != 91) = true := by
    rw [bne_iff_ne]
    intro hx
    apply hc
    apply UInt8.toNat_inj.1
    have h9 : (91 : UInt8).toNat = 91 := rfl
    rw [h9]
    omega
  go_enter Tryz.func163, Tryz.ntmps163
  go_wp2_with (first
    | (go_at_call 30; refine (grow_at _ (10) (by omega) hE0H.out (by unfold lim; omega) (Nat.le_trans (by have := hesc.out; first | omega | (simp; done) | (simp; omega)) hl.out)).mono ?_; rintro ev w1 ⟨rfl, hE1⟩; have hE1H := Lib.hid hE1; clear hE1 hE0H)
    | (go_at_call 195; refine (getPreviousRune_any hE1H.out (by first | exact ho | simpa only [St.add_nil] using ho) (Nat.le_trans (by have := hesc.out; first | omega | (simp; done) | (simp; omega)) hl.out)).mono ?_; rintro ev wp ⟨rfl, rfl⟩)
    | (go_at_call 31; refine (writeByte_any 44 hE1H.out (Nat.le_trans (by have := hesc.out; first | omega | (simp; done) | (simp; omega)) hl.out)).mono ?_; rintro ev w2 ⟨rfl, hE2⟩; have hE2H := Lib.hid hE2; clear hE2 hE1H)
    | (go_at_call 70; refine (writeString_at ⟨#[110, 117, 108, 108]⟩ 4 rfl hE2H.out (by decide) (Nat.le_trans (by have := hesc.out; first | omega | (simp; done) | (simp; omega)) hl.out)).mono ?_; rintro ev w3 ⟨rfl, hE3⟩; have hE3H := Lib.hid hE3; clear hE3 hE2H)
    )
  first | go_end0 | refine bodyPost_ret (results_none rfl _ _ _) rfl ?_
  refine ⟨rfl, ?_⟩
  have hz := hE3H.out
  exact hz.cast (by simp [St.add])

set_option maxHeartbeats 3200000 in
set_option maxRecDepth 100000 in
theorem Float64Null_a {w0 w : World} {b0 : Option Nat} {N e : Nat} {s : St} {l : List UInt8} {v : Nat} {t : List UInt8} (hB : Base w0 b0 N) (h : EncF w0 b0 N e s w) (ho : s.out = l ++ [91]) (hlen : s.out.length + 200 ≤ lim) (ht : RealTxt v t) (hz0 : (FloatKind.f64.format.order v 0 == some .eq) = false) :
    Calls Tryz.prog 163 #[.pointer (some ⟨e, 0, none⟩), .float .f64 v] w fun ev w' => ev = .returned (.tuple #[]) ∧ EncF w0 b0 N e (s.add (t)) w' := by
  have hE0H := Lib.hid h
  have hl := Lib.hid hlen
  have hb5 : 200 ≤ 1099511627776 := by have : s.out.length + 200 ≤ 1099511627776 := hlen; omega
  have hesc := Lib.hid True.intro
  clear h hlen
  go_enter Tryz.func163, Tryz.ntmps163
  go_wp2_with (first
    | (go_at_call 30; refine (grow_at _ (10) (by omega) hE0H.out (by unfold lim; omega) (Nat.le_trans (by have := hesc.out; first | omega | (simp; done) | (simp; omega)) hl.out)).mono ?_; rintro ev w1 ⟨rfl, hE1⟩; have hE1H := Lib.hid hE1; clear hE1 hE0H)
    | (go_at_call 195; refine (getPreviousRune_any hE1H.out (by first | exact ho | simpa only [St.add_nil] using ho) (Nat.le_trans (by have := hesc.out; first | omega | (simp; done) | (simp; omega)) hl.out)).mono ?_; rintro ev wp ⟨rfl, rfl⟩; obtain ⟨bbX, hEX, hFX⟩ := hE1H.out; obtain ⟨vX, ⟨hownX, hobX⟩, c0X, _, _, _, _, _, hfzX, hesX, hNeX, hNX⟩ := hEX.cells; have f0X := hfzX 0; have hEXH := Lib.hid hEX; have hFXH := Lib.hid hFX; have hobXH := Lib.hid hobX; have hownXH := Lib.hid hownX; have htbX := Lib.hid ((hE1H.out).tabs hB); clear hEX hFX hobX hownX hfzX)
    | (go_at_call 72; refine (AppendFloat_any ht htbX.out.pow htbX.out.tab hNX hownXH.out (by intro hx; have h1 := (own_lt hownXH.out _ hx).2; omega) (Nat.le_trans (by have := hesc.out; first | omega | (simp; done) | (simp; omega)) hl.out)).mono ?_; rintro ev wz ⟨vz, rfl, hbz⟩; obtain ⟨aoz, lz, cz, rfl⟩ := own_form hbz.own; have hkz := kept0 hEXH.out hobXH.out hbz 0; rw [c0X, f0X] at hkz; have hfin := Lib.hid (EncF.putTo hEXH.out hFXH.out hobXH.out hbz); obtain ⟨kz0, kz1⟩ := hkz; clear hbz)
    )
  first | go_end0 | refine bodyPost_ret (results_none rfl _ _ _) rfl ?_
  refine ⟨rfl, ?_⟩
  have hz := hfin.out
  exact hz.cast (by simp [St.add])

set_option maxHeartbeats 3200000 in
set_option maxRecDepth 100000 in
theorem Float64Null_b {w0 w : World} {b0 : Option Nat} {N e : Nat} {s : St} {l : List UInt8} {v : Nat} {t : List UInt8} (hB : Base w0 b0 N) (h : EncF w0 b0 N e s w) {c : UInt8} (hc : c ≠ 91) (ho : s.out = l ++ [c]) (hlen : s.out.length + 200 ≤ lim) (ht : RealTxt v t) (hz0 : (FloatKind.f64.format.order v 0 == some .eq) = false) :
    Calls Tryz.prog 163 #[.pointer (some ⟨e, 0, none⟩), .float .f64 v] w fun ev w' => ev = .returned (.tuple #[]) ∧ EncF w0 b0 N e (s.add ([44] ++ t)) w' := by
  have hE0H := Lib.hid h
  have hl := Lib.hid hlen
  have hb5 : 200 ≤ 1099511627776 := by have : s.out.length + 200 ≤ 1099511627776 := hlen; omega
  have hesc := Lib.hid True.intro
  clear h hlen
  have hcn : (((c.toNat : Nat) : Int) != 91) = true := by
    rw [bne_iff_ne]
    intro hx
    apply hc
    apply UInt8.toNat_inj.1
    have h9 : (91 : UInt8).toNat = 91 := rfl
    rw [h9]
    omega
  go_enter Tryz.func163, Tryz.ntmps163
  go_wp2_with (first
    | (go_at_call 30; refine (grow_at _ (10) (by omega) hE0H.out (by unfold lim; omega) (Nat.le_trans (by have := hesc.out; first | omega | (simp; done) | (simp; omega)) hl.out)).mono ?_; rintro ev w1 ⟨rfl, hE1⟩; have hE1H := Lib.hid hE1; clear hE1 hE0H)
    | (go_at_call 195; refine (getPreviousRune_any hE1H.out (by first | exact ho | simpa only [St.add_nil] using ho) (Nat.le_trans (by have := hesc.out; first | omega | (simp; done) | (simp; omega)) hl.out)).mono ?_; rintro ev wp ⟨rfl, rfl⟩)
    | (go_at_call 31; refine (writeByte_any 44 hE1H.out (Nat.le_trans (by have := hesc.out; first | omega | (simp; done) | (simp; omega)) hl.out)).mono ?_; rintro ev w2 ⟨rfl, hE2⟩; have hE2H := Lib.hid hE2; clear hE2 hE1H; obtain ⟨bbX, hEX, hFX⟩ := hE2H.out; obtain ⟨vX, ⟨hownX, hobX⟩, c0X, _, _, _, _, _, hfzX, hesX, hNeX, hNX⟩ := hEX.cells; have f0X := hfzX 0; have hEXH := Lib.hid hEX; have hFXH := Lib.hid hFX; have hobXH := Lib.hid hobX; have hownXH := Lib.hid hownX; have htbX := Lib.hid ((hE2H.out).tabs hB); clear hEX hFX hobX hownX hfzX)
    | (go_at_call 72; refine (AppendFloat_any ht htbX.out.pow htbX.out.tab hNX hownXH.out (by intro hx; have h1 := (own_lt hownXH.out _ hx).2; omega) (Nat.le_trans (by have := hesc.out; first | omega | (simp; done) | (simp; omega)) hl.out)).mono ?_; rintro ev wz ⟨vz, rfl, hbz⟩; obtain ⟨aoz, lz, cz, rfl⟩ := own_form hbz.own; have hkz := kept0 hEXH.out hobXH.out hbz 0; rw [c0X, f0X] at hkz; have hfin := Lib.hid (EncF.putTo hEXH.out hFXH.out hobXH.out hbz); obtain ⟨kz0, kz1⟩ := hkz; clear hbz)
    )
  first | go_end0 | refine bodyPost_ret (results_none rfl _ _ _) rfl ?_
  refine ⟨rfl, ?_⟩
  have hz := hfin.out
  exact hz.cast (by simp [St.add])

set_option maxHeartbeats 3200000 in
set_option maxRecDepth 100000 in
theorem StringNull0_a {w0 w : World} {b0 : Option Nat} {N e : Nat} {s : St} {l : List UInt8}  (_ : Base w0 b0 N) (h : EncF w0 b0 N e s w) (ho : s.out = l ++ [91]) (hlen : s.out.length + 200 ≤ lim) :
    Calls Tryz.prog 164 #[.pointer (some ⟨e, 0, none⟩), .string ⟨#[]⟩] w fun ev w' => ev = .returned (.tuple #[]) ∧ EncF w0 b0 N e (s.add ([110, 117, 108, 108])) w' := by
  have hE0H := Lib.hid h
  have hl := Lib.hid hlen
  have hb5 : 200 ≤ 1099511627776 := by have : s.out.length + 200 ≤ 1099511627776 := hlen; omega
  have hesc := Lib.hid True.intro
  clear h hlen
  go_enter Tryz.func164, Tryz.ntmps164
  go_wp2_with (first
    | (go_at_call 195; refine (getPreviousRune_any hE0H.out (by first | exact ho | simpa only [St.add_nil] using ho) (Nat.le_trans (by have := hesc.out; first | omega | (simp; done) | (simp; omega)) hl.out)).mono ?_; rintro ev wp ⟨rfl, rfl⟩)
    | (go_at_call 70; refine (writeString_at ⟨#[110, 117, 108, 108]⟩ 4 rfl hE0H.out (by decide) (Nat.le_trans (by have := hesc.out; first | omega | (simp; done) | (simp; omega)) hl.out)).mono ?_; rintro ev w1 ⟨rfl, hE1⟩; have hE1H := Lib.hid hE1; clear hE1 hE0H)
    )
  first | go_end0 | refine bodyPost_ret (results_none rfl _ _ _) rfl ?_
  refine ⟨rfl, ?_⟩
  have hz := hE1H.out
  exact hz.cast (by simp [St.add])

set_option maxHeartbeats 3200000 in
set_option maxRecDepth 100000 in
theorem StringNull0_b {w0 w : World} {b0 : Option Nat} {N e : Nat} {s : St} {l : List UInt8}  (_ : Base w0 b0 N) (h : EncF w0 b0 N e s w) {c : UInt8} (hc : c ≠ 91) (ho : s.out = l ++ [c]) (hlen : s.out.length + 200 ≤ lim) :
    Calls Tryz.prog 164 #[.pointer (some ⟨e, 0, none⟩), .string ⟨#[]⟩] w fun ev w' => ev = .returned (.tuple #[]) ∧ EncF w0 b0 N e (s.add ([44] ++ [110, 117, 108, 108])) w' := by
  have hE0H := Lib.hid h
  have hl := Lib.hid hlen
  have hb5 : 200 ≤ 1099511627776 := by have : s.out.length + 200 ≤ 1099511627776 := hlen; omega
  have hesc := Lib.hid True.intro
  clear h hlen
  have hcn : (((c.toNat : Nat) : Int) != 91) = true := by
    rw [bne_iff_ne]
    intro hx
    apply hc
    apply UInt8.toNat_inj.1
    have h9 : (91 : UInt8).toNat = 91 := rfl
    rw [h9]
    omega
  go_enter Tryz.func164, Tryz.ntmps164
  go_wp2_with (first
    | (go_at_call 195; refine (getPreviousRune_any hE0H.out (by first | exact ho | simpa only [St.add_nil] using ho) (Nat.le_trans (by have := hesc.out; first | omega | (simp; done) | (simp; omega)) hl.out)).mono ?_; rintro ev wp ⟨rfl, rfl⟩)
    | (go_at_call 31; refine (writeByte_any 44 hE0H.out (Nat.le_trans (by have := hesc.out; first | omega | (simp; done) | (simp; omega)) hl.out)).mono ?_; rintro ev w1 ⟨rfl, hE1⟩; have hE1H := Lib.hid hE1; clear hE1 hE0H)
    | (go_at_call 70; refine (writeString_at ⟨#[110, 117, 108, 108]⟩ 4 rfl hE1H.out (by decide) (Nat.le_trans (by have := hesc.out; first | omega | (simp; done) | (simp; omega)) hl.out)).mono ?_; rintro ev w2 ⟨rfl, hE2⟩; have hE2H := Lib.hid hE2; clear hE2 hE1H)
    )
  first | go_end0 | refine bodyPost_ret (results_none rfl _ _ _) rfl ?_
  refine ⟨rfl, ?_⟩
  have hz := hE2H.out
  exact hz.cast (by simp [St.add])

set_option maxHeartbeats 3200000 in
set_option maxRecDepth 100000 in
theorem StringNull_a {w0 w : World} {b0 : Option Nat} {N e : Nat} {s : St} {l : List UInt8} {t : ByteArray} (_ : Base w0 b0 N) (h : EncF w0 b0 N e s w) (ho : s.out = l ++ [91]) (hlen : s.out.length + (6 * t.size + 200) ≤ lim) (hz0 : t.toList.isEmpty = false) :
    Calls Tryz.prog 164 #[.pointer (some ⟨e, 0, none⟩), .string t] w fun ev w' => ev = .returned (.tuple #[]) ∧ EncF w0 b0 N e (s.add ([34] ++ esc t.data.toList ++ [34])) w' := by
  have hE0H := Lib.hid h
  have hl := Lib.hid hlen
  have hb5 : (6 * t.size + 200) ≤ 1099511627776 := by have : s.out.length + (6 * t.size + 200) ≤ 1099511627776 := hlen; omega
  have hesc := Lib.hid (esc_len t.data.toList)
  have hsz_t : t.data.toList.length = t.size := rfl
  clear h hlen
  go_enter Tryz.func164, Tryz.ntmps164
  go_wp2_with (first
    | (go_at_call 195; refine (getPreviousRune_any hE0H.out (by first | exact ho | simpa only [St.add_nil] using ho) (Nat.le_trans (by have := hesc.out; first | omega | (simp; done) | (simp; omega)) hl.out)).mono ?_; rintro ev wp ⟨rfl, rfl⟩)
    | (go_at_call 31; refine (writeByte_any 34 hE0H.out (Nat.le_trans (by have := hesc.out; first | omega | (simp; done) | (simp; omega)) hl.out)).mono ?_; rintro ev w1 ⟨rfl, hE1⟩; have hE1H := Lib.hid hE1; clear hE1 hE0H)
    | (go_at_call 69; refine (writeStringEscape_any t hE1H.out (Nat.le_trans (by have := hesc.out; first | omega | (simp; done) | (simp; omega)) hl.out)).mono ?_; rintro ev w2 ⟨rfl, hE2⟩; have hE2H := Lib.hid hE2; clear hE2 hE1H)
    | (go_at_call 31; refine (writeByte_any 34 hE2H.out (Nat.le_trans (by have := hesc.out; first | omega | (simp; done) | (simp; omega)) hl.out)).mono ?_; rintro ev w3 ⟨rfl, hE3⟩; have hE3H := Lib.hid hE3; clear hE3 hE2H)
    )
  first | go_end0 | refine bodyPost_ret (results_none rfl _ _ _) rfl ?_
  refine ⟨rfl, ?_⟩
  have hz := hE3H.out
  exact hz.cast (by simp [St.add])

set_option maxHeartbeats 3200000 in
set_option maxRecDepth 100000 in
theorem StringNull_b {w0 w : World} {b0 : Option Nat} {N e : Nat} {s : St} {l : List UInt8} {t : ByteArray} (_ : Base w0 b0 N) (h : EncF w0 b0 N e s w) {c : UInt8} (hc : c ≠ 91) (ho : s.out = l ++ [c]) (hlen : s.out.length + (6 * t.size + 200) ≤ lim) (hz0 : t.toList.isEmpty = false) :
    Calls Tryz.prog 164 #[.pointer (some ⟨e, 0, none⟩), .string t] w fun ev w' => ev = .returned (.tuple #[]) ∧ EncF w0 b0 N e (s.add ([44, 34] ++ esc t.data.toList ++ [34])) w' := by
  have hE0H := Lib.hid h
  have hl := Lib.hid hlen
  have hb5 : (6 * t.size + 200) ≤ 1099511627776 := by have : s.out.length + (6 * t.size + 200) ≤ 1099511627776 := hlen; omega
  have hesc := Lib.hid (esc_len t.data.toList)
  have hsz_t : t.data.toList.length = t.size := rfl
  clear h hlen
  have hcn : (((c.toNat : Nat) : Int) != 91) = true := by
    rw [bne_iff_ne]
    intro hx
    apply hc
    apply UInt8.toNat_inj.1
    have h9 : (91 : UInt8).toNat = 91 := rfl
    rw [h9]
    omega
  go_enter Tryz.func164, Tryz.ntmps164
  go_wp2_with (first
    | (go_at_call 195; refine (getPreviousRune_any hE0H.out (by first | exact ho | simpa only [St.add_nil] using ho) (Nat.le_trans (by have := hesc.out; first | omega | (simp; done) | (simp; omega)) hl.out)).mono ?_; rintro ev wp ⟨rfl, rfl⟩)
    | (go_at_call 77; refine (writeTwoBytes_u8 44 34 hE0H.out (Nat.le_trans (by have := hesc.out; first | omega | (simp; done) | (simp; omega)) hl.out)).mono ?_; rintro ev w1 ⟨rfl, hE1⟩; have hE1H := Lib.hid hE1; clear hE1 hE0H)
    | (go_at_call 69; refine (writeStringEscape_any t hE1H.out (Nat.le_trans (by have := hesc.out; first | omega | (simp; done) | (simp; omega)) hl.out)).mono ?_; rintro ev w2 ⟨rfl, hE2⟩; have hE2H := Lib.hid hE2; clear hE2 hE1H)
    | (go_at_call 31; refine (writeByte_any 34 hE2H.out (Nat.le_trans (by have := hesc.out; first | omega | (simp; done) | (simp; omega)) hl.out)).mono ?_; rintro ev w3 ⟨rfl, hE3⟩; have hE3H := Lib.hid hE3; clear hE3 hE2H)
    )
  first | go_end0 | refine bodyPost_ret (results_none rfl _ _ _) rfl ?_
  refine ⟨rfl, ?_⟩
  have hz := hE3H.out
  exact hz.cast (by simp [St.add])

set_option maxHeartbeats 3200000 in
set_option maxRecDepth 100000 in
theorem BoolKeyNull0_a {w0 w : World} {b0 : Option Nat} {N e : Nat} {s : St} {l : List UInt8} {key : ByteArray}  (_ : Base w0 b0 N) (h : EncF w0 b0 N e s w) (ho : s.out = l ++ [123]) (hhk : s.hk = false) (hlen : s.out.length + (6 * key.size + 200) ≤ lim) :
    Calls Tryz.prog 182 #[.pointer (some ⟨e, 0, none⟩), .string key, .bool false] w fun ev w' => ev = .returned (.tuple #[]) ∧ EncF w0 b0 N e (s.add ([34] ++ esc key.data.toList ++ [34, 58] ++ [110, 117, 108, 108])) w' := by
  have hE0H := Lib.hid h
  have hl := Lib.hid hlen
  have hb5 : (6 * key.size + 200) ≤ 1099511627776 := by have : s.out.length + (6 * key.size + 200) ≤ 1099511627776 := hlen; omega
  have hesc := Lib.hid (esc_len key.data.toList)
  have hsz_key : key.data.toList.length = key.size := rfl
  obtain ⟨bbK, hEK, hFK⟩ := h
  obtain ⟨vK, _, _, _, _, _, c4K, _, hfzK, hesK, _, _⟩ := hEK.cells
  rw [hhk] at c4K
  clear hEK hFK hfzK hlen
  go_enter Tryz.func182, Tryz.ntmps182
  go_wp2_with (first
    | (go_at_call 30; refine (grow_at _ (5 + key.size) (by omega) hE0H.out (by unfold lim; omega) (Nat.le_trans (by have := hesc.out; first | omega | (simp; done) | (simp; omega)) hl.out)).mono ?_; rintro ev w1 ⟨rfl, hE1⟩; have hE1H := Lib.hid hE1; clear hE1 hE0H)
    | (go_at_call 195; refine (getPreviousRune_any hE1H.out (by first | exact ho | simpa only [St.add_nil] using ho) (Nat.le_trans (by have := hesc.out; first | omega | (simp; done) | (simp; omega)) hl.out)).mono ?_; rintro ev wp ⟨rfl, rfl⟩)
    | (go_at_call 31; refine (writeByte_any 34 hE1H.out (Nat.le_trans (by have := hesc.out; first | omega | (simp; done) | (simp; omega)) hl.out)).mono ?_; rintro ev w2 ⟨rfl, hE2⟩; have hE2H := Lib.hid hE2; clear hE2 hE1H)
    | (go_at_call 69; refine (writeStringEscape_any key hE2H.out (Nat.le_trans (by have := hesc.out; first | omega | (simp; done) | (simp; omega)) hl.out)).mono ?_; rintro ev w3 ⟨rfl, hE3⟩; have hE3H := Lib.hid hE3; clear hE3 hE2H)
    | (go_at_call 70; refine (writeString_at ⟨#[34, 58]⟩ 2 rfl hE3H.out (by decide) (Nat.le_trans (by have := hesc.out; first | omega | (simp; done) | (simp; omega)) hl.out)).mono ?_; rintro ev w4 ⟨rfl, hE4⟩; have hE4H := Lib.hid hE4; clear hE4 hE3H)
    | (go_at_call 70; refine (writeString_at ⟨#[110, 117, 108, 108]⟩ 4 rfl hE4H.out (by decide) (Nat.le_trans (by have := hesc.out; first | omega | (simp; done) | (simp; omega)) hl.out)).mono ?_; rintro ev w5 ⟨rfl, hE5⟩; have hE5H := Lib.hid hE5; clear hE5 hE4H)
    )
  first | go_end0 | refine bodyPost_ret (results_none rfl _ _ _) rfl ?_
  refine ⟨rfl, ?_⟩
  have hz := hE5H.out
  exact hz.cast (by simp [St.add])

set_option maxHeartbeats 3200000 in
set_option maxRecDepth 100000 in
theorem BoolKeyNull0_b {w0 w : World} {b0 : Option Nat} {N e : Nat} {s : St} {l : List UInt8} {key : ByteArray}  (_ : Base w0 b0 N) (h : EncF w0 b0 N e s w) {c : UInt8} (hc : c ≠ 123) (ho : s.out = l ++ [c]) (hhk : s.hk = false) (hlen : s.out.length + (6 * key.size + 200) ≤ lim) :
    Calls Tryz.prog 182 #[.pointer (some ⟨e, 0, none⟩), .string key, .bool false] w fun ev w' => ev = .returned (.tuple #[]) ∧ EncF w0 b0 N e (s.add ([44] ++ [34] ++ esc key.data.toList ++ [34, 58] ++ [110, 117, 108, 108])) w' := by
  have hE0H := Lib.hid h
  have hl := Lib.hid hlen
  have hb5 : (6 * key.size + 200) ≤ 1099511627776 := by have : s.out.length + (6 * key.size + 200) ≤ 1099511627776 := hlen; omega
  have hesc := Lib.hid (esc_len key.data.toList)
  have hsz_key : key.data.toList.length = key.size := rfl
  obtain ⟨bbK, hEK, hFK⟩ := h
  obtain ⟨vK, _, _, _, _, _, c4K, _, hfzK, hesK, _, _⟩ := hEK.cells
  rw [hhk] at c4K
  clear hEK hFK hfzK hlen
  have hcn : (((c.toNat : Nat) : Int) != 123) = true := by
    rw [bne_iff_ne]
    intro hx
    apply hc
    apply UInt8.toNat_inj.1
    have h9 : (123 : UInt8).toNat = 123 := rfl
    rw [h9]
    omega
  go_enter Tryz.func182, Tryz.ntmps182
  go_wp2_with (first
    | (go_at_call 30; refine (grow_at _ (5 + key.size) (by omega) hE0H.out (by unfold lim; omega) (Nat.le_trans (by have := hesc.out; first | omega | (simp; done) | (simp; omega)) hl.out)).mono ?_; rintro ev w1 ⟨rfl, hE1⟩; have hE1H := Lib.hid hE1; clear hE1 hE0H)
    | (go_at_call 195; refine (getPreviousRune_any hE1H.out (by first | exact ho | simpa only [St.add_nil] using ho) (Nat.le_trans (by have := hesc.out; first | omega | (simp; done) | (simp; omega)) hl.out)).mono ?_; rintro ev wp ⟨rfl, rfl⟩)
    | (go_at_call 31; refine (writeByte_any 44 hE1H.out (Nat.le_trans (by have := hesc.out; first | omega | (simp; done) | (simp; omega)) hl.out)).mono ?_; rintro ev w2 ⟨rfl, hE2⟩; have hE2H := Lib.hid hE2; clear hE2 hE1H)
    | (go_at_call 31; refine (writeByte_any 34 hE2H.out (Nat.le_trans (by have := hesc.out; first | omega | (simp; done) | (simp; omega)) hl.out)).mono ?_; rintro ev w3 ⟨rfl, hE3⟩; have hE3H := Lib.hid hE3; clear hE3 hE2H)
    | (go_at_call 69; refine (writeStringEscape_any key hE3H.out (Nat.le_trans (by have := hesc.out; first | omega | (simp; done) | (simp; omega)) hl.out)).mono ?_; rintro ev w4 ⟨rfl, hE4⟩; have hE4H := Lib.hid hE4; clear hE4 hE3H)
    | (go_at_call 70; refine (writeString_at ⟨#[34, 58]⟩ 2 rfl hE4H.out (by decide) (Nat.le_trans (by have := hesc.out; first | omega | (simp; done) | (simp; omega)) hl.out)).mono ?_; rintro ev w5 ⟨rfl, hE5⟩; have hE5H := Lib.hid hE5; clear hE5 hE4H)
    | (go_at_call 70; refine (writeString_at ⟨#[110, 117, 108, 108]⟩ 4 rfl hE5H.out (by decide) (Nat.le_trans (by have := hesc.out; first | omega | (simp; done) | (simp; omega)) hl.out)).mono ?_; rintro ev w6 ⟨rfl, hE6⟩; have hE6H := Lib.hid hE6; clear hE6 hE5H)
    )
  first | go_end0 | refine bodyPost_ret (results_none rfl _ _ _) rfl ?_
  refine ⟨rfl, ?_⟩
  have hz := hE6H.out
  exact hz.cast (by simp [St.add])

set_option maxHeartbeats 3200000 in
set_option maxRecDepth 100000 in
theorem BoolKeyNull_a {w0 w : World} {b0 : Option Nat} {N e : Nat} {s : St} {l : List UInt8} {key : ByteArray}  (hB : Base w0 b0 N) (h : EncF w0 b0 N e s w) (ho : s.out = l ++ [123]) (hhk : s.hk = false) (hlen : s.out.length + (6 * key.size + 200) ≤ lim) :
    Calls Tryz.prog 182 #[.pointer (some ⟨e, 0, none⟩), .string key, .bool true] w fun ev w' => ev = .returned (.tuple #[]) ∧ EncF w0 b0 N e (s.add ([34] ++ esc key.data.toList ++ [34, 58] ++ boolTxt true)) w' := by
  have hE0H := Lib.hid h
  have hl := Lib.hid hlen
  have hb5 : (6 * key.size + 200) ≤ 1099511627776 := by have : s.out.length + (6 * key.size + 200) ≤ 1099511627776 := hlen; omega
  have hesc := Lib.hid (esc_len key.data.toList)
  have hsz_key : key.data.toList.length = key.size := rfl
  obtain ⟨bbK, hEK, hFK⟩ := h
  obtain ⟨vK, _, _, _, _, _, c4K, _, hfzK, hesK, _, _⟩ := hEK.cells
  rw [hhk] at c4K
  clear hEK hFK hfzK hlen
  go_enter Tryz.func182, Tryz.ntmps182
  go_wp2_with (first
    | (go_at_call 30; refine (grow_at _ (5 + key.size) (by omega) hE0H.out (by unfold lim; omega) (Nat.le_trans (by have := hesc.out; first | omega | (simp; done) | (simp; omega)) hl.out)).mono ?_; rintro ev w1 ⟨rfl, hE1⟩; have hE1H := Lib.hid hE1; clear hE1 hE0H)
    | (go_at_call 195; refine (getPreviousRune_any hE1H.out (by first | exact ho | simpa only [St.add_nil] using ho) (Nat.le_trans (by have := hesc.out; first | omega | (simp; done) | (simp; omega)) hl.out)).mono ?_; rintro ev wp ⟨rfl, rfl⟩)
    | (go_at_call 31; refine (writeByte_any 34 hE1H.out (Nat.le_trans (by have := hesc.out; first | omega | (simp; done) | (simp; omega)) hl.out)).mono ?_; rintro ev w2 ⟨rfl, hE2⟩; have hE2H := Lib.hid hE2; clear hE2 hE1H)
    | (go_at_call 69; refine (writeStringEscape_any key hE2H.out (Nat.le_trans (by have := hesc.out; first | omega | (simp; done) | (simp; omega)) hl.out)).mono ?_; rintro ev w3 ⟨rfl, hE3⟩; have hE3H := Lib.hid hE3; clear hE3 hE2H)
    | (go_at_call 70; refine (writeString_at ⟨#[34, 58]⟩ 2 rfl hE3H.out (by decide) (Nat.le_trans (by have := hesc.out; first | omega | (simp; done) | (simp; omega)) hl.out)).mono ?_; rintro ev w4 ⟨rfl, hE4⟩; have hE4H := Lib.hid hE4; clear hE4 hE3H; obtain ⟨bbX, hEX, hFX⟩ := hE4H.out; obtain ⟨vX, ⟨hownX, hobX⟩, c0X, _, _, _, _, _, hfzX, hesX, hNeX, hNX⟩ := hEX.cells; have f0X := hfzX 0; have hEXH := Lib.hid hEX; have hFXH := Lib.hid hFX; have hobXH := Lib.hid hobX; have hownXH := Lib.hid hownX; have htbX := Lib.hid ((hE4H.out).tabs hB); clear hEX hFX hobX hownX hfzX)
    | (go_at_call 197; refine (AppendBool_any true hNX hownXH.out (Nat.le_trans (by have := hesc.out; first | omega | (simp; done) | (simp; omega)) hl.out)).mono ?_; rintro ev wz ⟨vz, rfl, hbz⟩; obtain ⟨aoz, lz, cz, rfl⟩ := own_form hbz.own; have hkz := kept0 hEXH.out hobXH.out hbz 0; rw [c0X, f0X] at hkz; have hfin := Lib.hid (EncF.putTo hEXH.out hFXH.out hobXH.out hbz); obtain ⟨kz0, kz1⟩ := hkz; clear hbz)
    )
  first | go_end0 | refine bodyPost_ret (results_none rfl _ _ _) rfl ?_
  refine ⟨rfl, ?_⟩
  have hz := hfin.out
  exact hz.cast (by simp [St.add])

set_option maxHeartbeats 3200000 in
set_option maxRecDepth 100000 in
theorem BoolKeyNull_b {w0 w : World} {b0 : Option Nat} {N e : Nat} {s : St} {l : List UInt8} {key : ByteArray}  (hB : Base w0 b0 N) (h : EncF w0 b0 N e s w) {c : UInt8} (hc : c ≠ 123) (ho : s.out = l ++ [c]) (hhk : s.hk = false) (hlen : s.out.length + (6 * key.size + 200) ≤ lim) :
    Calls Tryz.prog 182 #[.pointer (some ⟨e, 0, none⟩), .string key, .bool true] w fun ev w' => ev = .returned (.tuple #[]) ∧ EncF w0 b0 N e (s.add ([44] ++ [34] ++ esc key.data.toList ++ [34, 58] ++ boolTxt true)) w' := by
  have hE0H := Lib.hid h
  have hl := Lib.hid hlen
  have hb5 : (6 * key.size + 200) ≤ 1099511627776 := by have : s.out.length + (6 * key.size + 200) ≤ 1099511627776 := hlen; omega
  have hesc := Lib.hid (esc_len key.data.toList)
  have hsz_key : key.data.toList.length = key.size := rfl
  obtain ⟨bbK, hEK, hFK⟩ := h
  obtain ⟨vK, _, _, _, _, _, c4K, _, hfzK, hesK, _, _⟩ := hEK.cells
  rw [hhk] at c4K
  clear hEK hFK hfzK hlen
  have hcn : (((c.toNat : Nat) : Int) != 123) = true := by
    rw [bne_iff_ne]
    intro hx
    apply hc
    apply UInt8.toNat_inj.1
    have h9 : (123 : UInt8).toNat = 123 := rfl
    rw [h9]
    omega
  go_enter Tryz.func182, Tryz.ntmps182
  go_wp2_with (first
    | (go_at_call 30; refine (grow_at _ (5 + key.size) (by omega) hE0H.out (by unfold lim; omega) (Nat.le_trans (by have := hesc.out; first | omega | (simp; done) | (simp; omega)) hl.out)).mono ?_; rintro ev w1 ⟨rfl, hE1⟩; have hE1H := Lib.hid hE1; clear hE1 hE0H)
    | (go_at_call 195; refine (getPreviousRune_any hE1H.out (by first | exact ho | simpa only [St.add_nil] using ho) (Nat.le_trans (by have := hesc.out; first | omega | (simp; done) | (simp; omega)) hl.out)).mono ?_; rintro ev wp ⟨rfl, rfl⟩)
    | (go_at_call 31; refine (writeByte_any 44 hE1H.out (Nat.le_trans (by have := hesc.out; first | omega | (simp; done) | (simp; omega)) hl.out)).mono ?_; rintro ev w2 ⟨rfl, hE2⟩; have hE2H := Lib.hid hE2; clear hE2 hE1H)
    | (go_at_call 31; refine (writeByte_any 34 hE2H.out (Nat.le_trans (by have := hesc.out; first | omega | (simp; done) | (simp; omega)) hl.out)).mono ?_; rintro ev w3 ⟨rfl, hE3⟩; have hE3H := Lib.hid hE3; clear hE3 hE2H)
    | (go_at_call 69; refine (writeStringEscape_any key hE3H.out (Nat.le_trans (by have := hesc.out; first | omega | (simp; done) | (simp; omega)) hl.out)).mono ?_; rintro ev w4 ⟨rfl, hE4⟩; have hE4H := Lib.hid hE4; clear hE4 hE3H)
    | (go_at_call 70; refine (writeString_at ⟨#[34, 58]⟩ 2 rfl hE4H.out (by decide) (Nat.le_trans (by have := hesc.out; first | omega | (simp; done) | (simp; omega)) hl.out)).mono ?_; rintro ev w5 ⟨rfl, hE5⟩; have hE5H := Lib.hid hE5; clear hE5 hE4H; obtain ⟨bbX, hEX, hFX⟩ := hE5H.out; obtain ⟨vX, ⟨hownX, hobX⟩, c0X, _, _, _, _, _, hfzX, hesX, hNeX, hNX⟩ := hEX.cells; have f0X := hfzX 0; have hEXH := Lib.hid hEX; have hFXH := Lib.hid hFX; have hobXH := Lib.hid hobX; have hownXH := Lib.hid hownX; have htbX := Lib.hid ((hE5H.out).tabs hB); clear hEX hFX hobX hownX hfzX)
    | (go_at_call 197; refine (AppendBool_any true hNX hownXH.out (Nat.le_trans (by have := hesc.out; first | omega | (simp; done) | (simp; omega)) hl.out)).mono ?_; rintro ev wz ⟨vz, rfl, hbz⟩; obtain ⟨aoz, lz, cz, rfl⟩ := own_form hbz.own; have hkz := kept0 hEXH.out hobXH.out hbz 0; rw [c0X, f0X] at hkz; have hfin := Lib.hid (EncF.putTo hEXH.out hFXH.out hobXH.out hbz); obtain ⟨kz0, kz1⟩ := hkz; clear hbz)
    )
  first | go_end0 | refine bodyPost_ret (results_none rfl _ _ _) rfl ?_
  refine ⟨rfl, ?_⟩
  have hz := hfin.out
  exact hz.cast (by simp [St.add])

set_option maxHeartbeats 3200000 in
set_option maxRecDepth 100000 in
theorem Int64KeyNull0_a {w0 w : World} {b0 : Option Nat} {N e : Nat} {s : St} {l : List UInt8} {key : ByteArray}  (_ : Base w0 b0 N) (h : EncF w0 b0 N e s w) (ho : s.out = l ++ [123]) (hhk : s.hk = false) (hlen : s.out.length + (6 * key.size + 200) ≤ lim) :
    Calls Tryz.prog 183 #[.pointer (some ⟨e, 0, none⟩), .string key, .int .i64 0] w fun ev w' => ev = .returned (.tuple #[]) ∧ EncF w0 b0 N e (s.add ([34] ++ esc key.data.toList ++ [34, 58] ++ [110, 117, 108, 108])) w' := by
  have hE0H := Lib.hid h
  have hl := Lib.hid hlen
  have hb5 : (6 * key.size + 200) ≤ 1099511627776 := by have : s.out.length + (6 * key.size + 200) ≤ 1099511627776 := hlen; omega
  have hesc := Lib.hid (esc_len key.data.toList)
  have hsz_key : key.data.toList.length = key.size := rfl
  obtain ⟨bbK, hEK, hFK⟩ := h
  obtain ⟨vK, _, _, _, _, _, c4K, _, hfzK, hesK, _, _⟩ := hEK.cells
  rw [hhk] at c4K
  clear hEK hFK hfzK hlen
  go_enter Tryz.func183, Tryz.ntmps183
  go_wp2_with (first
    | (go_at_call 30; refine (grow_at _ (10 + key.size) (by omega) hE0H.out (by unfold lim; omega) (Nat.le_trans (by have := hesc.out; first | omega | (simp; done) | (simp; omega)) hl.out)).mono ?_; rintro ev w1 ⟨rfl, hE1⟩; have hE1H := Lib.hid hE1; clear hE1 hE0H)
    | (go_at_call 195; refine (getPreviousRune_any hE1H.out (by first | exact ho | simpa only [St.add_nil] using ho) (Nat.le_trans (by have := hesc.out; first | omega | (simp; done) | (simp; omega)) hl.out)).mono ?_; rintro ev wp ⟨rfl, rfl⟩)
    | (go_at_call 31; refine (writeByte_any 34 hE1H.out (Nat.le_trans (by have := hesc.out; first | omega | (simp; done) | (simp; omega)) hl.out)).mono ?_; rintro ev w2 ⟨rfl, hE2⟩; have hE2H := Lib.hid hE2; clear hE2 hE1H)
    | (go_at_call 69; refine (writeStringEscape_any key hE2H.out (Nat.le_trans (by have := hesc.out; first | omega | (simp; done) | (simp; omega)) hl.out)).mono ?_; rintro ev w3 ⟨rfl, hE3⟩; have hE3H := Lib.hid hE3; clear hE3 hE2H)
    | (go_at_call 70; refine (writeString_at ⟨#[34, 58]⟩ 2 rfl hE3H.out (by decide) (Nat.le_trans (by have := hesc.out; first | omega | (simp; done) | (simp; omega)) hl.out)).mono ?_; rintro ev w4 ⟨rfl, hE4⟩; have hE4H := Lib.hid hE4; clear hE4 hE3H)
    | (go_at_call 70; refine (writeString_at ⟨#[110, 117, 108, 108]⟩ 4 rfl hE4H.out (by decide) (Nat.le_trans (by have := hesc.out; first | omega | (simp; done) | (simp; omega)) hl.out)).mono ?_; rintro ev w5 ⟨rfl, hE5⟩; have hE5H := Lib.hid hE5; clear hE5 hE4H)
    )
  first | go_end0 | refine bodyPost_ret (results_none rfl _ _ _) rfl ?_
  refine ⟨rfl, ?_⟩
  have hz := hE5H.out
  exact hz.cast (by simp [St.add])

set_option maxHeartbeats 3200000 in
set_option maxRecDepth 100000 in
theorem Int64KeyNull0_b {w0 w : World} {b0 : Option Nat} {N e : Nat} {s : St} {l : List UInt8} {key : ByteArray}  (_ : Base w0 b0 N) (h : EncF w0 b0 N e s w) {c : UInt8} (hc : c ≠ 123) (ho : s.out = l ++ [c]) (hhk : s.hk = false) (hlen : s.out.length + (6 * key.size + 200) ≤ lim) :
    Calls Tryz.prog 183 #[.pointer (some ⟨e, 0, none⟩), .string key, .int .i64 0] w fun ev w' => ev = .returned (.tuple #[]) ∧ EncF w0 b0 N e (s.add ([44] ++ [34] ++ esc key.data.toList ++ [34, 58] ++ [110, 117, 108, 108])) w' := by
  have hE0H := Lib.hid h
  have hl := Lib.hid hlen
  have hb5 : (6 * key.size + 200) ≤ 1099511627776 := by have : s.out.length + (6 * key.size + 200) ≤ 1099511627776 := hlen; omega
  have hesc := Lib.hid (esc_len key.data.toList)
  have hsz_key : key.data.toList.length = key.size := rfl
  obtain ⟨bbK, hEK, hFK⟩ := h
  obtain ⟨vK, _, _, _, _, _, c4K, _, hfzK, hesK, _, _⟩ := hEK.cells
  rw [hhk] at c4K
  clear hEK hFK hfzK hlen
  have hcn : (((c.toNat : Nat) : Int) != 123) = true := by
    rw [bne_iff_ne]
    intro hx
    apply hc
    apply UInt8.toNat_inj.1
    have h9 : (123 : UInt8).toNat = 123 := rfl
    rw [h9]
    omega
  go_enter Tryz.func183, Tryz.ntmps183
  go_wp2_with (first
    | (go_at_call 30; refine (grow_at _ (10 + key.size) (by omega) hE0H.out (by unfold lim; omega) (Nat.le_trans (by have := hesc.out; first | omega | (simp; done) | (simp; omega)) hl.out)).mono ?_; rintro ev w1 ⟨rfl, hE1⟩; have hE1H := Lib.hid hE1; clear hE1 hE0H)
    | (go_at_call 195; refine (getPreviousRune_any hE1H.out (by first | exact ho | simpa only [St.add_nil] using ho) (Nat.le_trans (by have := hesc.out; first | omega | (simp; done) | (simp; omega)) hl.out)).mono ?_; rintro ev wp ⟨rfl, rfl⟩)
    | (go_at_call 31; refine (writeByte_any 44 hE1H.out (Nat.le_trans (by have := hesc.out; first | omega | (simp; done) | (simp; omega)) hl.out)).mono ?_; rintro ev w2 ⟨rfl, hE2⟩; have hE2H := Lib.hid hE2; clear hE2 hE1H)
    | (go_at_call 31; refine (writeByte_any 34 hE2H.out (Nat.le_trans (by have := hesc.out; first | omega | (simp; done) | (simp; omega)) hl.out)).mono ?_; rintro ev w3 ⟨rfl, hE3⟩; have hE3H := Lib.hid hE3; clear hE3 hE2H)
    | (go_at_call 69; refine (writeStringEscape_any key hE3H.out (Nat.le_trans (by have := hesc.out; first | omega | (simp; done) | (simp; omega)) hl.out)).mono ?_; rintro ev w4 ⟨rfl, hE4⟩; have hE4H := Lib.hid hE4; clear hE4 hE3H)
    | (go_at_call 70; refine (writeString_at ⟨#[34, 58]⟩ 2 rfl hE4H.out (by decide) (Nat.le_trans (by have := hesc.out; first | omega | (simp; done) | (simp; omega)) hl.out)).mono ?_; rintro ev w5 ⟨rfl, hE5⟩; have hE5H := Lib.hid hE5; clear hE5 hE4H)
    | (go_at_call 70; refine (writeString_at ⟨#[110, 117, 108, 108]⟩ 4 rfl hE5H.out (by decide) (Nat.le_trans (by have := hesc.out; first | omega | (simp; done) | (simp; omega)) hl.out)).mono ?_; rintro ev w6 ⟨rfl, hE6⟩; have hE6H := Lib.hid hE6; clear hE6 hE5H)
    )
  first | go_end0 | refine bodyPost_ret (results_none rfl _ _ _) rfl ?_
  refine ⟨rfl, ?_⟩
  have hz := hE6H.out
  exact hz.cast (by simp [St.add])

set_option maxHeartbeats 3200000 in
set_option maxRecDepth 100000 in
theorem Int64KeyNull_a {w0 w : World} {b0 : Option Nat} {N e : Nat} {s : St} {l : List UInt8} {key : ByteArray} {v : Int} (hB : Base w0 b0 N) (h : EncF w0 b0 N e s w) (ho : s.out = l ++ [123]) (hhk : s.hk = false) (hlen : s.out.length + (6 * key.size + 200) ≤ lim) (hv0 : -9223372036854775808 ≤ v) (hv1 : v ≤ 9223372036854775807) (hz0 : (v == 0) = false) :
    Calls Tryz.prog 183 #[.pointer (some ⟨e, 0, none⟩), .string key, .int .i64 v] w fun ev w' => ev = .returned (.tuple #[]) ∧ EncF w0 b0 N e (s.add ([34] ++ esc key.data.toList ++ [34, 58] ++ Lib.itoa v)) w' := by
  have hE0H := Lib.hid h
  have hl := Lib.hid hlen
  have hb5 : (6 * key.size + 200) ≤ 1099511627776 := by have : s.out.length + (6 * key.size + 200) ≤ 1099511627776 := hlen; omega
  have hesc := Lib.hid (esc_len key.data.toList)
  have hsz_key : key.data.toList.length = key.size := rfl
  obtain ⟨bbK, hEK, hFK⟩ := h
  obtain ⟨vK, _, _, _, _, _, c4K, _, hfzK, hesK, _, _⟩ := hEK.cells
  rw [hhk] at c4K
  clear hEK hFK hfzK hlen
  go_enter Tryz.func183, Tryz.ntmps183
  go_wp2_with (first
    | (go_at_call 30; refine (grow_at _ (10 + key.size) (by omega) hE0H.out (by unfold lim; omega) (Nat.le_trans (by have := hesc.out; first | omega | (simp; done) | (simp; omega)) hl.out)).mono ?_; rintro ev w1 ⟨rfl, hE1⟩; have hE1H := Lib.hid hE1; clear hE1 hE0H)
    | (go_at_call 195; refine (getPreviousRune_any hE1H.out (by first | exact ho | simpa only [St.add_nil] using ho) (Nat.le_trans (by have := hesc.out; first | omega | (simp; done) | (simp; omega)) hl.out)).mono ?_; rintro ev wp ⟨rfl, rfl⟩)
    | (go_at_call 31; refine (writeByte_any 34 hE1H.out (Nat.le_trans (by have := hesc.out; first | omega | (simp; done) | (simp; omega)) hl.out)).mono ?_; rintro ev w2 ⟨rfl, hE2⟩; have hE2H := Lib.hid hE2; clear hE2 hE1H)
    | (go_at_call 69; refine (writeStringEscape_any key hE2H.out (Nat.le_trans (by have := hesc.out; first | omega | (simp; done) | (simp; omega)) hl.out)).mono ?_; rintro ev w3 ⟨rfl, hE3⟩; have hE3H := Lib.hid hE3; clear hE3 hE2H)
    | (go_at_call 70; refine (writeString_at ⟨#[34, 58]⟩ 2 rfl hE3H.out (by decide) (Nat.le_trans (by have := hesc.out; first | omega | (simp; done) | (simp; omega)) hl.out)).mono ?_; rintro ev w4 ⟨rfl, hE4⟩; have hE4H := Lib.hid hE4; clear hE4 hE3H; obtain ⟨bbX, hEX, hFX⟩ := hE4H.out; obtain ⟨vX, ⟨hownX, hobX⟩, c0X, _, _, _, _, _, hfzX, hesX, hNeX, hNX⟩ := hEX.cells; have f0X := hfzX 0; have hEXH := Lib.hid hEX; have hFXH := Lib.hid hFX; have hobXH := Lib.hid hobX; have hownXH := Lib.hid hownX; have htbX := Lib.hid ((hE4H.out).tabs hB); clear hEX hFX hobX hownX hfzX)
    | (go_at_call 71; refine (AppendInt_any hv0 hv1 hownXH.out hNX (Nat.le_trans (by have := hesc.out; first | omega | (simp; done) | (simp; omega)) hl.out) htbX.out.tab (by intro hx; have h1 := (own_lt hownXH.out _ hx).1; have h2 := htbX.out.g2; omega)).mono ?_; rintro ev wz ⟨vz, rfl, hbz⟩; obtain ⟨aoz, lz, cz, rfl⟩ := own_form hbz.own; have hkz := kept0 hEXH.out hobXH.out hbz 0; rw [c0X, f0X] at hkz; have hfin := Lib.hid (EncF.putTo hEXH.out hFXH.out hobXH.out hbz); obtain ⟨kz0, kz1⟩ := hkz; clear hbz)
    )
  first | go_end0 | refine bodyPost_ret (results_none rfl _ _ _) rfl ?_
  refine ⟨rfl, ?_⟩
  have hz := hfin.out
  exact hz.cast (by simp [St.add])

set_option maxHeartbeats 3200000 in
set_option maxRecDepth 100000 in
theorem Int64KeyNull_b {w0 w : World} {b0 : Option Nat} {N e : Nat} {s : St} {l : List UInt8} {key : ByteArray} {v : Int} (hB : Base w0 b0 N) (h : EncF w0 b0 N e s w) {c : UInt8} (hc : c ≠ 123) (ho : s.out = l ++ [c]) (hhk : s.hk = false) (hlen : s.out.length + (6 * key.size + 200) ≤ lim) (hv0 : -9223372036854775808 ≤ v) (hv1 : v ≤ 9223372036854775807) (hz0 : (v == 0) = false) :
    Calls Tryz.prog 183 #[.pointer (some ⟨e, 0, none⟩), .string key, .int .i64 v] w fun ev w' => ev = .returned (.tuple #[]) ∧ EncF w0 b0 N e (s.add ([44] ++ [34] ++ esc key.data.toList ++ [34, 58] ++ Lib.itoa v)) w' := by
  have hE0H := Lib.hid h
  have hl := Lib.hid hlen
  have hb5 : (6 * key.size + 200) ≤ 1099511627776 := by have : s.out.length + (6 * key.size + 200) ≤ 1099511627776 := hlen; omega
  have hesc := Lib.hid (esc_len key.data.toList)
  have hsz_key : key.data.toList.length = key.size := rfl
  obtain ⟨bbK, hEK, hFK⟩ := h
  obtain ⟨vK, _, _, _, _, _, c4K, _, hfzK, hesK, _, _⟩ := hEK.cells
  rw [hhk] at c4K
  clear hEK hFK hfzK hlen
  have hcn : (((c.toNat : Nat) : Int) != 123) = true := by
    rw [bne_iff_ne]
    intro hx
    apply hc
    apply UInt8.toNat_inj.1
    have h9 : (123 : UInt8).toNat = 123 := rfl
    rw [h9]
    omega
  go_enter Tryz.func183, Tryz.ntmps183
  go_wp2_with (first
    | (go_at_call 30; refine (grow_at _ (10 + key.size) (by omega) hE0H.out (by unfold lim; omega) (Nat.le_trans (by have := hesc.out; first | omega | (simp; done) | (simp; omega)) hl.out)).mono ?_; rintro ev w1 ⟨rfl, hE1⟩; have hE1H := Lib.hid hE1; clear hE1 hE0H)
    | (go_at_call 195; refine (getPreviousRune_any hE1H.out (by first | exact ho | simpa only [St.add_nil] using ho) (Nat.le_trans (by have := hesc.out; first | omega | (simp; done) | (simp; omega)) hl.out)).mono ?_; rintro ev wp ⟨rfl, rfl⟩)
    | (go_at_call 31; refine (writeByte_any 44 hE1H.out (Nat.le_trans (by have := hesc.out; first | omega | (simp; done) | (simp; omega)) hl.out)).mono ?_; rintro ev w2 ⟨rfl, hE2⟩; have hE2H := Lib.hid hE2; clear hE2 hE1H)
    | (go_at_call 31; refine (writeByte_any 34 hE2H.out (Nat.le_trans (by have := hesc.out; first | omega | (simp; done) | (simp; omega)) hl.out)).mono ?_; rintro ev w3 ⟨rfl, hE3⟩; have hE3H := Lib.hid hE3; clear hE3 hE2H)
    | (go_at_call 69; refine (writeStringEscape_any key hE3H.out (Nat.le_trans (by have := hesc.out; first | omega | (simp; done) | (simp; omega)) hl.out)).mono ?_; rintro ev w4 ⟨rfl, hE4⟩; have hE4H := Lib.hid hE4; clear hE4 hE3H)
    | (go_at_call 70; refine (writeString_at ⟨#[34, 58]⟩ 2 rfl hE4H.out (by decide) (Nat.le_trans (by have := hesc.out; first | omega | (simp; done) | (simp; omega)) hl.out)).mono ?_; rintro ev w5 ⟨rfl, hE5⟩; have hE5H := Lib.hid hE5; clear hE5 hE4H; obtain ⟨bbX, hEX, hFX⟩ := hE5H.out; obtain ⟨vX, ⟨hownX, hobX⟩, c0X, _, _, _, _, _, hfzX, hesX, hNeX, hNX⟩ := hEX.cells; have f0X := hfzX 0; have hEXH := Lib.hid hEX; have hFXH := Lib.hid hFX; have hobXH := Lib.hid hobX; have hownXH := Lib.hid hownX; have htbX := Lib.hid ((hE5H.out).tabs hB); clear hEX hFX hobX hownX hfzX)
    | (go_at_call 71; refine (AppendInt_any hv0 hv1 hownXH.out hNX (Nat.le_trans (by have := hesc.out; first | omega | (simp; done) | (simp; omega)) hl.out) htbX.out.tab (by intro hx; have h1 := (own_lt hownXH.out _ hx).1; have h2 := htbX.out.g2; omega)).mono ?_; rintro ev wz ⟨vz, rfl, hbz⟩; obtain ⟨aoz, lz, cz, rfl⟩ := own_form hbz.own; have hkz := kept0 hEXH.out hobXH.out hbz 0; rw [c0X, f0X] at hkz; have hfin := Lib.hid (EncF.putTo hEXH.out hFXH.out hobXH.out hbz); obtain ⟨kz0, kz1⟩ := hkz; clear hbz)
    )
  first | go_end0 | refine bodyPost_ret (results_none rfl _ _ _) rfl ?_
  refine ⟨rfl, ?_⟩
  have hz := hfin.out
  exact hz.cast (by simp [St.add])

set_option maxHeartbeats 3200000 in
set_option maxRecDepth 100000 in
theorem Float64KeyNull0_a {w0 w : World} {b0 : Option Nat} {N e : Nat} {s : St} {l : List UInt8} {key : ByteArray} {v : Nat} (_ : Base w0 b0 N) (h : EncF w0 b0 N e s w) (ho : s.out = l ++ [123]) (hhk : s.hk = false) (hlen : s.out.length + (6 * key.size + 200) ≤ lim) (hz0 : (FloatKind.f64.format.order v 0 == some .eq) = true) :
    Calls Tryz.prog 184 #[.pointer (some ⟨e, 0, none⟩), .string key, .float .f64 v] w fun ev w' => ev = .returned (.tuple #[]) ∧ EncF w0 b0 N e (s.add ([34] ++ esc key.data.toList ++ [34, 58] ++ [110, 117, 108, 108])) w' := by
  have hE0H := Lib.hid h
  have hl := Lib.hid hlen
  have hb5 : (6 * key.size + 200) ≤ 1099511627776 := by have : s.out.length + (6 * key.size + 200) ≤ 1099511627776 := hlen; omega
  have hesc := Lib.hid (esc_len key.data.toList)
  have hsz_key : key.data.toList.length = key.size := rfl
  obtain ⟨bbK, hEK, hFK⟩ := h
  obtain ⟨vK, _, _, _, _, _, c4K, _, hfzK, hesK, _, _⟩ := hEK.cells
  rw [hhk] at c4K
  clear hEK hFK hfzK hlen
  go_enter Tryz.func184, Tryz.ntmps184
  go_wp2_with (first
    | (go_at_call 30; refine (grow_at _ (10 + key.size) (by omega) hE0H.out (by unfold lim; omega) (Nat.le_trans (by have := hesc.out; first | omega | (simp; done) | (simp; omega)) hl.out)).mono ?_; rintro ev w1 ⟨rfl, hE1⟩; have hE1H := Lib.hid hE1; clear hE1 hE0H)
    | (go_at_call 195; refine (getPreviousRune_any hE1H.out (by first | exact ho | simpa only [St.add_nil] using ho) (Nat.le_trans (by have := hesc.out; first | omega | (simp; done) | (simp; omega)) hl.out)).mono ?_; rintro ev wp ⟨rfl, rfl⟩)
    | (go_at_call 31; refine (writeByte_any 34 hE1H.out (Nat.le_trans (by have := hesc.out; first | omega | (simp; done) | (simp; omega)) hl.out)).mono ?_; rintro ev w2 ⟨rfl, hE2⟩; have hE2H := Lib.hid hE2; clear hE2 hE1H)
    | (go_at_call 69; refine (writeStringEscape_any key hE2H.out (Nat.le_trans (by have := hesc.out; first | omega | (simp; done) | (simp; omega)) hl.out)).mono ?_; rintro ev w3 ⟨rfl, hE3⟩; have hE3H := Lib.hid hE3; clear hE3 hE2H)
    | (go_at_call 70; refine (writeString_at ⟨#[34, 58]⟩ 2 rfl hE3H.out (by decide) (Nat.le_trans (by have := hesc.out; first | omega | (simp; done) | (simp; omega)) hl.out)).mono ?_; rintro ev w4 ⟨rfl, hE4⟩; have hE4H := Lib.hid hE4; clear hE4 hE3H)
    | (go_at_call 70; refine (writeString_at ⟨#[110, 117, 108, 108]⟩ 4 rfl hE4H.out (by decide) (Nat.le_trans (by have := hesc.out; first | omega | (simp; done) | (simp; omega)) hl.out)).mono ?_; rintro ev w5 ⟨rfl, hE5⟩; have hE5H := Lib.hid hE5; clear hE5 hE4H)
    )
  first | go_end0 | refine bodyPost_ret (results_none rfl _ _ _) rfl ?_
  refine ⟨rfl, ?_⟩
  have hz := hE5H.out
  exact hz.cast (by simp [St.add])

set_option maxHeartbeats 3200000 in
set_option maxRecDepth 100000 in
theorem Float64KeyNull0_b {w0 w : World} {b0 : Option Nat} {N e : Nat} {s : St} {l : List UInt8} {key : ByteArray} {v : Nat} (_ : Base w0 b0 N) (h : EncF w0 b0 N e s w) {c : UInt8} (hc : c ≠ 123) (ho : s.out = l ++ [c]) (hhk : s.hk = false) (hlen : s.out.length + (6 * key.size + 200) ≤ lim) (hz0 : (FloatKind.f64.format.order v 0 == some .eq) = true) :
    Calls Tryz.prog 184 #[.pointer (some ⟨e, 0, none⟩), .string key, .float .f64 v] w fun ev w' => ev = .returned (.tuple #[]) ∧ EncF w0 b0 N e (s.add ([44] ++ [34] ++ esc key.data.toList ++ [34, 58] ++ [110, 117, 108, 108])) w' := by
  have hE0H := Lib.hid h
  have hl := Lib.hid hlen
  have hb5 : (6 * key.size + 200) ≤ 1099511627776 := by have : s.out.length + (6 * key.size + 200) ≤ 1099511627776 := hlen; omega
  have hesc := Lib.hid (esc_len key.data.toList)
  have hsz_key : key.data.toList.length = key.size := rfl
  obtain ⟨bbK, hEK, hFK⟩ := h
  obtain ⟨vK, _, _, _, _, _, c4K, _, hfzK, hesK, _, _⟩ := hEK.cells
  rw [hhk] at c4K
  clear hEK hFK hfzK hlen
  have hcn : (((c.toNat : Nat) : Int) != 123) = true := by
    rw [bne_iff_ne]
    intro hx
    apply hc
    apply UInt8.toNat_inj.1
    have h9 : (123 : UInt8).toNat = 123 := rfl
    rw [h9]
    omega
  go_enter Tryz.func184, Tryz.ntmps184
  go_wp2_with (first
    | (go_at_call 30; refine (grow_at _ (10 + key.size) (by omega) hE0H.out (by unfold lim; omega) (Nat.le_trans (by have := hesc.out; first | omega | (simp; done) | (simp; omega)) hl.out)).mono ?_; rintro ev w1 ⟨rfl, hE1⟩; have hE1H := Lib.hid hE1; clear hE1 hE0H)
    | (go_at_call 195; refine (getPreviousRune_any hE1H.out (by first | exact ho | simpa only [St.add_nil] using ho) (Nat.le_trans (by have := hesc.out; first | omega | (simp; done) | (simp; omega)) hl.out)).mono ?_; rintro ev wp ⟨rfl, rfl⟩)
    | (go_at_call 31; refine (writeByte_any 44 hE1H.out (Nat.le_trans (by have := hesc.out; first | omega | (simp; done) | (simp; omega)) hl.out)).mono ?_; rintro ev w2 ⟨rfl, hE2⟩; have hE2H := Lib.hid hE2; clear hE2 hE1H)
    | (go_at_call 31; refine (writeByte_any 34 hE2H.out (Nat.le_trans (by have := hesc.out; first | omega | (simp; done) | (simp; omega)) hl.out)).mono ?_; rintro ev w3 ⟨rfl, hE3⟩; have hE3H := Lib.hid hE3; clear hE3 hE2H)
    | (go_at_call 69; refine (writeStringEscape_any key hE3H.out (Nat.le_trans (by have := hesc.out; first | omega | (simp; done) | (simp; omega)) hl.out)).mono ?_; rintro ev w4 ⟨rfl, hE4⟩; have hE4H := Lib.hid hE4; clear hE4 hE3H)
    | (go_at_call 70; refine (writeString_at ⟨#[34, 58]⟩ 2 rfl hE4H.out (by decide) (Nat.le_trans (by have := hesc.out; first | omega | (simp; done) | (simp; omega)) hl.out)).mono ?_; rintro ev w5 ⟨rfl, hE5⟩; have hE5H := Lib.hid hE5; clear hE5 hE4H)
    | (go_at_call 70; refine (writeString_at ⟨#[110, 117, 108, 108]⟩ 4 rfl hE5H.out (by decide) (Nat.le_trans (by have := hesc.out; first | omega | (simp; done) | (simp; omega)) hl.out)).mono ?_; rintro ev w6 ⟨rfl, hE6⟩; have hE6H := Lib.hid hE6; clear hE6 hE5H)
    )
  first | go_end0 | refine bodyPost_ret (results_none rfl _ _ _) rfl ?_
  refine ⟨rfl, ?_⟩
  have hz := hE6H.out
  exact hz.cast (by simp [St.add])

set_option maxHeartbeats 3200000 in
set_option maxRecDepth 100000 in
theorem Float64KeyNull_a {w0 w : World} {b0 : Option Nat} {N e : Nat} {s : St} {l : List UInt8} {key : ByteArray} {v : Nat} {t : List UInt8} (hB : Base w0 b0 N) (h : EncF w0 b0 N e s w) (ho : s.out = l ++ [123]) (hhk : s.hk = false) (hlen : s.out.length + (6 * key.size + 200) ≤ lim) (ht : RealTxt v t) (hz0 : (FloatKind.f64.format.order v 0 == some .eq) = false) :
    Calls Tryz.prog 184 #[.pointer (some ⟨e, 0, none⟩), .string key, .float .f64 v] w fun ev w' => ev = .returned (.tuple #[]) ∧ EncF w0 b0 N e (s.add ([34] ++ esc key.data.toList ++ [34, 58] ++ t)) w' := by
  have hE0H := Lib.hid h
  have hl := Lib.hid hlen
  have hb5 : (6 * key.size + 200) ≤ 1099511627776 := by have : s.out.length + (6 * key.size + 200) ≤ 1099511627776 := hlen; omega
  have hesc := Lib.hid (esc_len key.data.toList)
  have hsz_key : key.data.toList.length = key.size := rfl
  obtain ⟨bbK, hEK, hFK⟩ := h
  obtain ⟨vK, _, _, _, _, _, c4K, _, hfzK, hesK, _, _⟩ := hEK.cells
  rw [hhk] at c4K
  clear hEK hFK hfzK hlen
  go_enter Tryz.func184, Tryz.ntmps184
  go_wp2_with (first
    | (go_at_call 30; refine (grow_at _ (10 + key.size) (by omega) hE0H.out (by unfold lim; omega) (Nat.le_trans (by have := hesc.out; first | omega | (simp; done) | (simp; omega)) hl.out)).mono ?_; rintro ev w1 ⟨rfl, hE1⟩; have hE1H := Lib.hid hE1; clear hE1 hE0H)
    | (go_at_call 195; refine (getPreviousRune_any hE1H.out (by first | exact ho | simpa only [St.add_nil] using ho) (Nat.le_trans (by have := hesc.out; first | omega | (simp; done) | (simp; omega)) hl.out)).mono ?_; rintro ev wp ⟨rfl, rfl⟩)
    | (go_at_call 31; refine (writeByte_any 34 hE1H.out (Nat.le_trans (by have := hesc.out; first | omega | (simp; done) | (simp; omega)) hl.out)).mono ?_; rintro ev w2 ⟨rfl, hE2⟩; have hE2H := Lib.hid hE2; clear hE2 hE1H)
    | (go_at_call 69; refine (writeStringEscape_any key hE2H.out (Nat.le_trans (by have := hesc.out; first | omega | (simp; done) | (simp; omega)) hl.out)).mono ?_; rintro ev w3 ⟨rfl, hE3⟩; have hE3H := Lib.hid hE3; clear hE3 hE2H)
    | (go_at_call 70; refine (writeString_at ⟨#[34, 58]⟩ 2 rfl hE3H.out (by decide) (Nat.le_trans (by have := hesc.out; first | omega | (simp; done) | (simp; omega)) hl.out)).mono ?_; rintro ev w4 ⟨rfl, hE4⟩; have hE4H := Lib.hid hE4; clear hE4 hE3H; obtain ⟨bbX, hEX, hFX⟩ := hE4H.out; obtain ⟨vX, ⟨hownX, hobX⟩, c0X, _, _, _, _, _, hfzX, hesX, hNeX, hNX⟩ := hEX.cells; have f0X := hfzX 0; have hEXH := Lib.hid hEX; have hFXH := Lib.hid hFX; have hobXH := Lib.hid hobX; have hownXH := Lib.hid hownX; have htbX := Lib.hid ((hE4H.out).tabs hB); clear hEX hFX hobX hownX hfzX)
    | (go_at_call 72; refine (AppendFloat_any ht htbX.out.pow htbX.out.tab hNX hownXH.out (by intro hx; have h1 := (own_lt hownXH.out _ hx).2; omega) (Nat.le_trans (by have := hesc.out; first | omega | (simp; done) | (simp; omega)) hl.out)).mono ?_; rintro ev wz ⟨vz, rfl, hbz⟩; obtain ⟨aoz, lz, cz, rfl⟩ := own_form hbz.own; have hkz := kept0 hEXH.out hobXH.out hbz 0; rw [c0X, f0X] at hkz; have hfin := Lib.hid (EncF.putTo hEXH.out hFXH.out hobXH.out hbz); obtain ⟨kz0, kz1⟩ := hkz; clear hbz)
    )
  first | go_end0 | refine bodyPost_ret (results_none rfl _ _ _) rfl ?_
  refine ⟨rfl, ?_⟩
  have hz := hfin.out
  exact hz.cast (by simp [St.add])

set_option maxHeartbeats 3200000 in
set_option maxRecDepth 100000 in
theorem Float64KeyNull_b {w0 w : World} {b0 : Option Nat} {N e : Nat} {s : St} {l : List UInt8} {key : ByteArray} {v : Nat} {t : List UInt8} (hB : Base w0 b0 N) (h : EncF w0 b0 N e s w) {c : UInt8} (hc : c ≠ 123) (ho : s.out = l ++ [c]) (hhk : s.hk = false) (hlen : s.out.length + (6 * key.size + 200) ≤ lim) (ht : RealTxt v t) (hz0 : (FloatKind.f64.format.order v 0 == some .eq) = false) :
    Calls Tryz.prog 184 #[.pointer (some ⟨e, 0, none⟩), .string key, .float .f64 v] w fun ev w' => ev = .returned (.tuple #[]) ∧ EncF w0 b0 N e (s.add ([44] ++ [34] ++ esc key.data.toList ++ [34, 58] ++ t)) w' := by
  have hE0H := Lib.hid h
  have hl := Lib.hid hlen
  have hb5 : (6 * key.size + 200) ≤ 1099511627776 := by have : s.out.length + (6 * key.size + 200) ≤ 1099511627776 := hlen; omega
  have hesc := Lib.hid (esc_len key.data.toList)
  have hsz_key : key.data.toList.length = key.size := rfl
  obtain ⟨bbK, hEK, hFK⟩ := h
  obtain ⟨vK, _, _, _, _, _, c4K, _, hfzK, hesK, _, _⟩ := hEK.cells
  rw [hhk] at c4K
  clear hEK hFK hfzK hlen
  have hcn : (((c.toNat : Nat) : Int) != 123) = true := by
    rw [bne_iff_ne]
    intro hx
    apply hc
    apply UInt8.toNat_inj.1
    have h9 : (123 : UInt8).toNat = 123 := rfl
    rw [h9]
    omega
  go_enter Tryz.func184, Tryz.ntmps184
  go_wp2_with (first
    | (go_at_call 30; refine (grow_at _ (10 + key.size) (by omega) hE0H.out (by unfold lim; omega) (Nat.le_trans (by have := hesc.out; first | omega | (simp; done) | (simp; omega)) hl.out)).mono ?_; rintro ev w1 ⟨rfl, hE1⟩; have hE1H := Lib.hid hE1; clear hE1 hE0H)
    | (go_at_call 195; refine (getPreviousRune_any hE1H.out (by first | exact ho | simpa only [St.add_nil] using ho) (Nat.le_trans (by have := hesc.out; first | omega | (simp; done) | (simp; omega)) hl.out)).mono ?_; rintro ev wp ⟨rfl, rfl⟩)
    | (go_at_call 31; refine (writeByte_any 44 hE1H.out (Nat.le_trans (by have := hesc.out; first | omega | (simp; done) | (simp; omega)) hl.out)).mono ?_; rintro ev w2 ⟨rfl, hE2⟩; have hE2H := Lib.hid hE2; clear hE2 hE1H)
    | (go_at_call 31; refine (writeByte_any 34 hE2H.out (Nat.le_trans (by have := hesc.out; first | omega | (simp; done) | (simp; omega)) hl.out)).mono ?_; rintro ev w3 ⟨rfl, hE3⟩; have hE3H := Lib.hid hE3; clear hE3 hE2H)
    | (go_at_call 69; refine (writeStringEscape_any key hE3H.out (Nat.le_trans (by have := hesc.out; first | omega | (simp; done) | (simp; omega)) hl.out)).mono ?_; rintro ev w4 ⟨rfl, hE4⟩; have hE4H := Lib.hid hE4; clear hE4 hE3H)
    | (go_at_call 70; refine (writeString_at ⟨#[34, 58]⟩ 2 rfl hE4H.out (by decide) (Nat.le_trans (by have := hesc.out; first | omega | (simp; done) | (simp; omega)) hl.out)).mono ?_; rintro ev w5 ⟨rfl, hE5⟩; have hE5H := Lib.hid hE5; clear hE5 hE4H; obtain ⟨bbX, hEX, hFX⟩ := hE5H.out; obtain ⟨vX, ⟨hownX, hobX⟩, c0X, _, _, _, _, _, hfzX, hesX, hNeX, hNX⟩ := hEX.cells; have f0X := hfzX 0; have hEXH := Lib.hid hEX; have hFXH := Lib.hid hFX; have hobXH := Lib.hid hobX; have hownXH := Lib.hid hownX; have htbX := Lib.hid ((hE5H.out).tabs hB); clear hEX hFX hobX hownX hfzX)
    | (go_at_call 72; refine (AppendFloat_any ht htbX.out.pow htbX.out.tab hNX hownXH.out (by intro hx; have h1 := (own_lt hownXH.out _ hx).2; omega) (Nat.le_trans (by have := hesc.out; first | omega | (simp; done) | (simp; omega)) hl.out)).mono ?_; rintro ev wz ⟨vz, rfl, hbz⟩; obtain ⟨aoz, lz, cz, rfl⟩ := own_form hbz.own; have hkz := kept0 hEXH.out hobXH.out hbz 0; rw [c0X, f0X] at hkz; have hfin := Lib.hid (EncF.putTo hEXH.out hFXH.out hobXH.out hbz); obtain ⟨kz0, kz1⟩ := hkz; clear hbz)
    )
  first | go_end0 | refine bodyPost_ret (results_none rfl _ _ _) rfl ?_
  refine ⟨rfl, ?_⟩
  have hz := hfin.out
  exact hz.cast (by simp [St.add])

set_option maxHeartbeats 3200000 in
set_option maxRecDepth 100000 in
theorem StringKeyNull0_a {w0 w : World} {b0 : Option Nat} {N e : Nat} {s : St} {l : List UInt8} {key : ByteArray}  (_ : Base w0 b0 N) (h : EncF w0 b0 N e s w) (ho : s.out = l ++ [123]) (hhk : s.hk = false) (hlen : s.out.length + (6 * key.size + 200) ≤ lim) :
    Calls Tryz.prog 185 #[.pointer (some ⟨e, 0, none⟩), .string key, .string ⟨#[]⟩] w fun ev w' => ev = .returned (.tuple #[]) ∧ EncF w0 b0 N e (s.add ([34] ++ esc key.data.toList ++ [34, 58] ++ [110, 117, 108, 108])) w' := by
  have hE0H := Lib.hid h
  have hl := Lib.hid hlen
  have hb5 : (6 * key.size + 200) ≤ 1099511627776 := by have : s.out.length + (6 * key.size + 200) ≤ 1099511627776 := hlen; omega
  have hesc := Lib.hid (esc_len key.data.toList)
  have hsz_key : key.data.toList.length = key.size := rfl
  obtain ⟨bbK, hEK, hFK⟩ := h
  obtain ⟨vK, _, _, _, _, _, c4K, _, hfzK, hesK, _, _⟩ := hEK.cells
  rw [hhk] at c4K
  clear hEK hFK hfzK hlen
  go_enter Tryz.func185, Tryz.ntmps185
  go_wp2_with (first
    | (go_at_call 30; refine (grow_at _ (key.size + 0 + 5) (by omega) hE0H.out (by unfold lim; omega) (Nat.le_trans (by have := hesc.out; first | omega | (simp; done) | (simp; omega)) hl.out)).mono ?_; rintro ev w1 ⟨rfl, hE1⟩; have hE1H := Lib.hid hE1; clear hE1 hE0H)
    | (go_at_call 195; refine (getPreviousRune_any hE1H.out (by first | exact ho | simpa only [St.add_nil] using ho) (Nat.le_trans (by have := hesc.out; first | omega | (simp; done) | (simp; omega)) hl.out)).mono ?_; rintro ev wp ⟨rfl, rfl⟩)
    | (go_at_call 31; refine (writeByte_any 34 hE1H.out (Nat.le_trans (by have := hesc.out; first | omega | (simp; done) | (simp; omega)) hl.out)).mono ?_; rintro ev w2 ⟨rfl, hE2⟩; have hE2H := Lib.hid hE2; clear hE2 hE1H)
    | (go_at_call 69; refine (writeStringEscape_any key hE2H.out (Nat.le_trans (by have := hesc.out; first | omega | (simp; done) | (simp; omega)) hl.out)).mono ?_; rintro ev w3 ⟨rfl, hE3⟩; have hE3H := Lib.hid hE3; clear hE3 hE2H)
    | (go_at_call 70; refine (writeString_at ⟨#[34, 58]⟩ 2 rfl hE3H.out (by decide) (Nat.le_trans (by have := hesc.out; first | omega | (simp; done) | (simp; omega)) hl.out)).mono ?_; rintro ev w4 ⟨rfl, hE4⟩; have hE4H := Lib.hid hE4; clear hE4 hE3H)
    | (go_at_call 70; refine (writeString_at ⟨#[110, 117, 108, 108]⟩ 4 rfl hE4H.out (by decide) (Nat.le_trans (by have := hesc.out; first | omega | (simp; done) | (simp; omega)) hl.out)).mono ?_; rintro ev w5 ⟨rfl, hE5⟩; have hE5H := Lib.hid hE5; clear hE5 hE4H)
    )
  first | go_end0 | refine bodyPost_ret (results_none rfl _ _ _) rfl ?_
  refine ⟨rfl, ?_⟩
  have hz := hE5H.out
  exact hz.cast (by simp [St.add])

set_option maxHeartbeats 3200000 in
set_option maxRecDepth 100000 in
theorem StringKeyNull0_b {w0 w : World} {b0 : Option Nat} {N e : Nat} {s : St} {l : List UInt8} {key : ByteArray}  (_ : Base w0 b0 N) (h : EncF w0 b0 N e s w) {c : UInt8} (hc : c ≠ 123) (ho : s.out = l ++ [c]) (hhk : s.hk = false) (hlen : s.out.length + (6 * key.size + 200) ≤ lim) :
    Calls Tryz.prog 185 #[.pointer (some ⟨e, 0, none⟩), .string key, .string ⟨#[]⟩] w fun ev w' => ev = .returned (.tuple #[]) ∧ EncF w0 b0 N e (s.add ([44, 34] ++ esc key.data.toList ++ [34, 58] ++ [110, 117, 108, 108])) w' := by
  have hE0H := Lib.hid h
  have hl := Lib.hid hlen
  have hb5 : (6 * key.size + 200) ≤ 1099511627776 := by have : s.out.length + (6 * key.size + 200) ≤ 1099511627776 := hlen; omega
  have hesc := Lib.hid (esc_len key.data.toList)
  have hsz_key : key.data.toList.length = key.size := rfl
  obtain ⟨bbK, hEK, hFK⟩ := h
  obtain ⟨vK, _, _, _, _, _, c4K, _, hfzK, hesK, _, _⟩ := hEK.cells
  rw [hhk] at c4K
  clear hEK hFK hfzK hlen
  have hcn : (((c.toNat : Nat) : Int) != 123) = true := by
    rw [bne_iff_ne]
    intro hx
    apply hc
    apply UInt8.toNat_inj.1
    have h9 : (123 : UInt8).toNat = 123 := rfl
    rw [h9]
    omega
  go_enter Tryz.func185, Tryz.ntmps185
  go_wp2_with (first
    | (go_at_call 30; refine (grow_at _ (key.size + 0 + 5) (by omega) hE0H.out (by unfold lim; omega) (Nat.le_trans (by have := hesc.out; first | omega | (simp; done) | (simp; omega)) hl.out)).mono ?_; rintro ev w1 ⟨rfl, hE1⟩; have hE1H := Lib.hid hE1; clear hE1 hE0H)
    | (go_at_call 195; refine (getPreviousRune_any hE1H.out (by first | exact ho | simpa only [St.add_nil] using ho) (Nat.le_trans (by have := hesc.out; first | omega | (simp; done) | (simp; omega)) hl.out)).mono ?_; rintro ev wp ⟨rfl, rfl⟩)
    | (go_at_call 77; refine (writeTwoBytes_u8 44 34 hE1H.out (Nat.le_trans (by have := hesc.out; first | omega | (simp; done) | (simp; omega)) hl.out)).mono ?_; rintro ev w2 ⟨rfl, hE2⟩; have hE2H := Lib.hid hE2; clear hE2 hE1H)
    | (go_at_call 69; refine (writeStringEscape_any key hE2H.out (Nat.le_trans (by have := hesc.out; first | omega | (simp; done) | (simp; omega)) hl.out)).mono ?_; rintro ev w3 ⟨rfl, hE3⟩; have hE3H := Lib.hid hE3; clear hE3 hE2H)
    | (go_at_call 70; refine (writeString_at ⟨#[34, 58]⟩ 2 rfl hE3H.out (by decide) (Nat.le_trans (by have := hesc.out; first | omega | (simp; done) | (simp; omega)) hl.out)).mono ?_; rintro ev w4 ⟨rfl, hE4⟩; have hE4H := Lib.hid hE4; clear hE4 hE3H)
    | (go_at_call 70; refine (writeString_at ⟨#[110, 117, 108, 108]⟩ 4 rfl hE4H.out (by decide) (Nat.le_trans (by have := hesc.out; first | omega | (simp; done) | (simp; omega)) hl.out)).mono ?_; rintro ev w5 ⟨rfl, hE5⟩; have hE5H := Lib.hid hE5; clear hE5 hE4H)
    )
  first | go_end0 | refine bodyPost_ret (results_none rfl _ _ _) rfl ?_
  refine ⟨rfl, ?_⟩
  have hz := hE5H.out
  exact hz.cast (by simp [St.add])

set_option maxHeartbeats 3200000 in
set_option maxRecDepth 100000 in
theorem StringKeyNull_a {w0 w : World} {b0 : Option Nat} {N e : Nat} {s : St} {l : List UInt8} {key : ByteArray} {t : ByteArray} (_ : Base w0 b0 N) (h : EncF w0 b0 N e s w) (ho : s.out = l ++ [123]) (hhk : s.hk = false) (hlen : s.out.length + (6 * key.size + 6 * t.size + 200) ≤ lim) (hz0 : t.toList.isEmpty = false) :
    Calls Tryz.prog 185 #[.pointer (some ⟨e, 0, none⟩), .string key, .string t] w fun ev w' => ev = .returned (.tuple #[]) ∧ EncF w0 b0 N e (s.add ([34] ++ esc key.data.toList ++ [34, 58] ++ [34] ++ esc t.data.toList ++ [34])) w' := by
  have hE0H := Lib.hid h
  have hl := Lib.hid hlen
  have hb5 : (6 * key.size + 6 * t.size + 200) ≤ 1099511627776 := by have : s.out.length + (6 * key.size + 6 * t.size + 200) ≤ 1099511627776 := hlen; omega
  have hesc := Lib.hid (And.intro (esc_len key.data.toList) (esc_len t.data.toList))
  have hsz_key : key.data.toList.length = key.size := rfl
  have hsz_t : t.data.toList.length = t.size := rfl
  obtain ⟨bbK, hEK, hFK⟩ := h
  obtain ⟨vK, _, _, _, _, _, c4K, _, hfzK, hesK, _, _⟩ := hEK.cells
  rw [hhk] at c4K
  clear hEK hFK hfzK hlen
  go_enter Tryz.func185, Tryz.ntmps185
  go_wp2_with (first
    | (go_at_call 30; refine (grow_at _ (key.size + t.size + 5) (by omega) hE0H.out (by unfold lim; omega) (Nat.le_trans (by have := hesc.out; first | omega | (simp; done) | (simp; omega)) hl.out)).mono ?_; rintro ev w1 ⟨rfl, hE1⟩; have hE1H := Lib.hid hE1; clear hE1 hE0H)
    | (go_at_call 195; refine (getPreviousRune_any hE1H.out (by first | exact ho | simpa only [St.add_nil] using ho) (Nat.le_trans (by have := hesc.out; first | omega | (simp; done) | (simp; omega)) hl.out)).mono ?_; rintro ev wp ⟨rfl, rfl⟩)
    | (go_at_call 31; refine (writeByte_any 34 hE1H.out (Nat.le_trans (by have := hesc.out; first | omega | (simp; done) | (simp; omega)) hl.out)).mono ?_; rintro ev w2 ⟨rfl, hE2⟩; have hE2H := Lib.hid hE2; clear hE2 hE1H)
    | (go_at_call 69; refine (writeStringEscape_any key hE2H.out (Nat.le_trans (by have := hesc.out; first | omega | (simp; done) | (simp; omega)) hl.out)).mono ?_; rintro ev w3 ⟨rfl, hE3⟩; have hE3H := Lib.hid hE3; clear hE3 hE2H)
    | (go_at_call 70; refine (writeString_at ⟨#[34, 58]⟩ 2 rfl hE3H.out (by decide) (Nat.le_trans (by have := hesc.out; first | omega | (simp; done) | (simp; omega)) hl.out)).mono ?_; rintro ev w4 ⟨rfl, hE4⟩; have hE4H := Lib.hid hE4; clear hE4 hE3H)
    | (go_at_call 31; refine (writeByte_any 34 hE4H.out (Nat.le_trans (by have := hesc.out; first | omega | (simp; done) | (simp; omega)) hl.out)).mono ?_; rintro ev w5 ⟨rfl, hE5⟩; have hE5H := Lib.hid hE5; clear hE5 hE4H)
    | (go_at_call 69; refine (writeStringEscape_any t hE5H.out (Nat.le_trans (by have := hesc.out; first | omega | (simp; done) | (simp; omega)) hl.out)).mono ?_; rintro ev w6 ⟨rfl, hE6⟩; have hE6H := Lib.hid hE6; clear hE6 hE5H)
    | (go_at_call 31; refine (writeByte_any 34 hE6H.out (Nat.le_trans (by have := hesc.out; first | omega | (simp; done) | (simp; omega)) hl.out)).mono ?_; rintro ev w7 ⟨rfl, hE7⟩; have hE7H := Lib.hid hE7; clear hE7 hE6H)
    )
  first | go_end0 | refine bodyPost_ret (results_none rfl _ _ _) rfl ?_
  refine ⟨rfl, ?_⟩
  have hz := hE7H.out
  exact hz.cast (by simp [St.add])

set_option maxHeartbeats 3200000 in
set_option maxRecDepth 100000 in
theorem StringKeyNull_b {w0 w : World} {b0 : Option Nat} {N e : Nat} {s : St} {l : List UInt8} {key : ByteArray} {t : ByteArray} (_ : Base w0 b0 N) (h : EncF w0 b0 N e s w) {c : UInt8} (hc : c ≠ 123) (ho : s.out = l ++ [c]) (hhk : s.hk = false) (hlen : s.out.length + (6 * key.size + 6 * t.size + 200) ≤ lim) (hz0 : t.toList.isEmpty = false) :
    Calls Tryz.prog 185 #[.pointer (some ⟨e, 0, none⟩), .string key, .string t] w fun ev w' => ev = .returned (.tuple #[]) ∧ EncF w0 b0 N e (s.add ([44, 34] ++ esc key.data.toList ++ [34, 58] ++ [34] ++ esc t.data.toList ++ [34])) w' := by
  have hE0H := Lib.hid h
  have hl := Lib.hid hlen
  have hb5 : (6 * key.size + 6 * t.size + 200) ≤ 1099511627776 := by have : s.out.length + (6 * key.size + 6 * t.size + 200) ≤ 1099511627776 := hlen; omega
  have hesc := Lib.hid (And.intro (esc_len key.data.toList) (esc_len t.data.toList))
  have hsz_key : key.data.toList.length = key.size := rfl
  have hsz_t : t.data.toList.length = t.size := rfl
  obtain ⟨bbK, hEK, hFK⟩ := h
  obtain ⟨vK, _, _, _, _, _, c4K, _, hfzK, hesK, _, _⟩ := hEK.cells
  rw [hhk] at c4K
  clear hEK hFK hfzK hlen
  have hcn : (((c.toNat : Nat) : Int) != 123) = true := by
    rw [bne_iff_ne]
    intro hx
    apply hc
    apply UInt8.toNat_inj.1
    have h9 : (123 : UInt8).toNat = 123 := rfl
    rw [h9]
    omega
  go_enter Tryz.func185, Tryz.ntmps185
  go_wp2_with (first
    | (go_at_call 30; refine (grow_at _ (key.size + t.size + 5) (by omega) hE0H.out (by unfold lim; omega) (Nat.le_trans (by have := hesc.out; first | omega | (simp; done) | (simp; omega)) hl.out)).mono ?_; rintro ev w1 ⟨rfl, hE1⟩; have hE1H := Lib.hid hE1; clear hE1 hE0H)
    | (go_at_call 195; refine (getPreviousRune_any hE1H.out (by first | exact ho | simpa only [St.add_nil] using ho) (Nat.le_trans (by have := hesc.out; first | omega | (simp; done) | (simp; omega)) hl.out)).mono ?_; rintro ev wp ⟨rfl, rfl⟩)
    | (go_at_call 77; refine (writeTwoBytes_u8 44 34 hE1H.out (Nat.le_trans (by have := hesc.out; first | omega | (simp; done) | (simp; omega)) hl.out)).mono ?_; rintro ev w2 ⟨rfl, hE2⟩; have hE2H := Lib.hid hE2; clear hE2 hE1H)
    | (go_at_call 69; refine (writeStringEscape_any key hE2H.out (Nat.le_trans (by have := hesc.out; first | omega | (simp; done) | (simp; omega)) hl.out)).mono ?_; rintro ev w3 ⟨rfl, hE3⟩; have hE3H := Lib.hid hE3; clear hE3 hE2H)
    | (go_at_call 70; refine (writeString_at ⟨#[34, 58]⟩ 2 rfl hE3H.out (by decide) (Nat.le_trans (by have := hesc.out; first | omega | (simp; done) | (simp; omega)) hl.out)).mono ?_; rintro ev w4 ⟨rfl, hE4⟩; have hE4H := Lib.hid hE4; clear hE4 hE3H)
    | (go_at_call 31; refine (writeByte_any 34 hE4H.out (Nat.le_trans (by have := hesc.out; first | omega | (simp; done) | (simp; omega)) hl.out)).mono ?_; rintro ev w5 ⟨rfl, hE5⟩; have hE5H := Lib.hid hE5; clear hE5 hE4H)
    | (go_at_call 69; refine (writeStringEscape_any t hE5H.out (Nat.le_trans (by have := hesc.out; first | omega | (simp; done) | (simp; omega)) hl.out)).mono ?_; rintro ev w6 ⟨rfl, hE6⟩; have hE6H := Lib.hid hE6; clear hE6 hE5H)
    | (go_at_call 31; refine (writeByte_any 34 hE6H.out (Nat.le_trans (by have := hesc.out; first | omega | (simp; done) | (simp; omega)) hl.out)).mono ?_; rintro ev w7 ⟨rfl, hE7⟩; have hE7H := Lib.hid hE7; clear hE7 hE6H)
    )
  first | go_end0 | refine bodyPost_ret (results_none rfl _ _ _) rfl ?_
  refine ⟨rfl, ?_⟩
  have hz := hE7H.out
  exact hz.cast (by simp [St.add])
end Go.Proofs.YtokmkkkanphihaaGreatRDoor
