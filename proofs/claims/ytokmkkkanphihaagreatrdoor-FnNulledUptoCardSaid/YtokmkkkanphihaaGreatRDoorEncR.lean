/- The encoder's 'encode' methods: what they put, and the row that they hand back (written by genE3.py). -/
import Derived.Test.YtokmkkkanphihaaGreatRDoorPutC
namespace Go.Proofs.YtokmkkkanphihaaGreatRDoor
open Go.RowKit Go.Sort

/-- The encoder behind a call, and the row that it hands back. -/
def EncV (w0 : World) (b0 : Option Nat) (N e : Nat) (s : St) (ev : Ending) (w : World) : Prop :=
  ∃ v, ev = .returned (.tuple #[v, .nilIface]) ∧ EncF w0 b0 N e s w ∧ w.cell? ⟨e, 0, none⟩ = some v

theorem EncV.mk' {w0 w : World} {b0 : Option Nat} {N e : Nat} {s s2 : St} {ev : Ending} {v : Value} (he : ev = .returned (.tuple #[v, .nilIface])) (h : EncF w0 b0 N e s w) (hs : s = s2) (hc : w.cell? ⟨e, 0, none⟩ = some v) : EncV w0 b0 N e s2 ev w :=
  ⟨v, he, hs ▸ h, hc⟩


set_option maxHeartbeats 3200000 in
set_option maxRecDepth 100000 in
theorem encodeObject_nil {w0 w : World} {b0 : Option Nat} {N e : Nat} {s : St} {b o cc : Nat} {ao : Option Addr} {way : Int} (hB : Base w0 b0 N) (h : EncF w0 b0 N e s w) (hlen : s.out.length + (700) ≤ lim) (hhk : s.hk = false) (hks : s.ks = .slice none 0 0) (hbN : b < N) (hc40 : w0.cell? ⟨b, o + 4, none⟩ = some (.slice ao 0 cc)) :
    Calls Tryz.prog 35 #[.pointer (some ⟨e, 0, none⟩), .iface 44 (.agg #[.pointer (some ⟨b, o, none⟩), .int .i64 way])] w (EncV w0 b0 N e (s.add ([123] ++ [125]))) := by
  have hE0H := Lib.hid h
  have hl := Lib.hid hlen
  have hb5 : (700) ≤ 1099511627776 := by have : s.out.length + (700) ≤ 1099511627776 := hlen; omega
  have hesc := Lib.hid True.intro
  clear h hlen
  have hc4 := Lib.hid hc40
  clear hc40
  go_enter Tryz.func35, Tryz.ntmps35
  go_wp2_with (first
    | (go_at_call 30; refine (grow_at _ (512) (by omega) hE0H.out (by unfold lim; omega) (Nat.le_trans (by have := hesc.out; first | omega | (simp; done) | (simp; omega)) hl.out)).mono ?_; rintro ev w1 ⟨rfl, hE1⟩; have hE1H := Lib.hid hE1; clear hE1 hE0H)
    | (go_at_call 31; refine (writeByte_any 123 hE1H.out (Nat.le_trans (by have := hesc.out; first | omega | (simp; done) | (simp; omega)) hl.out)).mono ?_; rintro ev w2 ⟨rfl, hE2⟩; have hE2H := Lib.hid hE2; clear hE2 hE1H)
    | (go_at_call 144; refine (IsNil_any way ((hE2H.out.cell_low hB hbN _).trans hc4.out)).mono ?_; rintro ev wq3 ⟨rfl, x3, rfl⟩; have hE3H := Lib.hid (hE2H.out.alloc x3); clear hE2H; have hk9 := (hE3H.out.keys hhk hks).1)
    | (go_at_call 31; refine (writeByte_any 125 hE3H.out (Nat.le_trans (by have := hesc.out; first | omega | (simp; done) | (simp; omega)) hl.out)).mono ?_; rintro ev w4 ⟨rfl, hE4⟩; have hE4H := Lib.hid hE4; clear hE4 hE3H; obtain ⟨bbX, hEX, hFX⟩ := hE4H.out; obtain ⟨vX, ⟨hownX, hobX⟩, c0X, _, _, c3X, c4X, _, hfzX, hesX, hNeX, hNX⟩ := hEX.cells; have f0X := hfzX 0; have hEXH := Lib.hid hEX; have hFXH := Lib.hid hFX; have hobXH := Lib.hid hobX; have hownXH := Lib.hid hownX; have htbX := Lib.hid ((hE4H.out).tabs hB); clear hEX hFX hobX hownX hfzX)
    )
  go_quiet (fail)
  go_wp2_with fail
  go_ret2
  exact EncV.mk' rfl (hE4H.out.drewN _) (by simp [St.add]) c0X


set_option maxHeartbeats 3200000 in
set_option maxRecDepth 100000 in
theorem encodeObject_ne {w0 w : World} {b0 : Option Nat} {N e : Nat} {s : St} {b o n cc : Nat} {ao : Option Addr} {way : Int} {T : List UInt8} {K : Nat} (hB : Base w0 b0 N) (h : EncF w0 b0 N e s w) (hlen : s.out.length + (K + 700) ≤ lim) (hhk : s.hk = false) (hks : s.ks = .slice none 0 0) (hbN : b < N) (hn : (n == 0) = false) (hc40 : w0.cell? ⟨b, o + 4, none⟩ = some (.slice ao n cc)) (hmar0 : Writes 146 (.agg #[.pointer (some ⟨b, o, none⟩), .int .i64 way]) w0 b0 N e 123 T K) :
    Calls Tryz.prog 35 #[.pointer (some ⟨e, 0, none⟩), .iface 44 (.agg #[.pointer (some ⟨b, o, none⟩), .int .i64 way])] w (EncV w0 b0 N e (s.add ([123] ++ T ++ [125]))) := by
  have hE0H := Lib.hid h
  have hl := Lib.hid hlen
  have hb5 : (K + 700) ≤ 1099511627776 := by have : s.out.length + (K + 700) ≤ 1099511627776 := hlen; omega
  have hesc := Lib.hid True.intro
  clear h hlen
  have hTK := hmar0.1
  have hmar := Lib.hid hmar0
  clear hmar0
  have hc4 := Lib.hid hc40
  clear hc40
  go_enter Tryz.func35, Tryz.ntmps35
  go_wp2_with (first
    | (go_at_call 30; refine (grow_at _ (512) (by omega) hE0H.out (by unfold lim; omega) (Nat.le_trans (by have := hesc.out; first | omega | (simp; done) | (simp; omega)) hl.out)).mono ?_; rintro ev w1 ⟨rfl, hE1⟩; have hE1H := Lib.hid hE1; clear hE1 hE0H)
    | (go_at_call 31; refine (writeByte_any 123 hE1H.out (Nat.le_trans (by have := hesc.out; first | omega | (simp; done) | (simp; omega)) hl.out)).mono ?_; rintro ev w2 ⟨rfl, hE2⟩; have hE2H := Lib.hid hE2; clear hE2 hE1H)
    | (go_at_call 144; refine (IsNil_any way ((hE2H.out.cell_low hB hbN _).trans hc4.out)).mono ?_; rintro ev wq3 ⟨rfl, x3, rfl⟩; have hE3H := Lib.hid (hE2H.out.alloc x3); clear hE2H)
    | (go_at_call 146; refine (hmar.out.2 _ _ hE3H.out ⟨_, rfl⟩ hhk hks (Nat.le_trans (by have := hesc.out; first | omega | (simp; done) | (simp; omega)) hl.out)).mono ?_; rintro ev w4 ⟨rfl, hE4⟩; have hE4H := Lib.hid hE4; clear hE4 hE3H; have hk9 := (hE4H.out.keys hhk hks).1)
    | (go_at_call 31; refine (writeByte_any 125 hE4H.out (Nat.le_trans (by have := hesc.out; first | omega | (simp; done) | (simp; omega)) hl.out)).mono ?_; rintro ev w5 ⟨rfl, hE5⟩; have hE5H := Lib.hid hE5; clear hE5 hE4H; obtain ⟨bbX, hEX, hFX⟩ := hE5H.out; obtain ⟨vX, ⟨hownX, hobX⟩, c0X, _, _, c3X, c4X, _, hfzX, hesX, hNeX, hNX⟩ := hEX.cells; have f0X := hfzX 0; have hEXH := Lib.hid hEX; have hFXH := Lib.hid hFX; have hobXH := Lib.hid hobX; have hownXH := Lib.hid hownX; have htbX := Lib.hid ((hE5H.out).tabs hB); clear hEX hFX hobX hownX hfzX)
    )
  go_quiet (fail)
  go_wp2_with fail
  go_ret2
  exact EncV.mk' rfl (hE5H.out.drewN _) (by simp [St.add]) c0X


end Go.Proofs.YtokmkkkanphihaaGreatRDoor
