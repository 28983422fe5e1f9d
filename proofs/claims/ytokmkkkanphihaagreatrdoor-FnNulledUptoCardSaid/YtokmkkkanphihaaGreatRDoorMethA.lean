/- The encoder's methods for plain values (written by genM.py). -/
import Derived.Test.YtokmkkkanphihaaGreatRDoorMeth
namespace Go.Proofs.YtokmkkkanphihaaGreatRDoor
open Go.RowKit Go.Sort

set_option maxHeartbeats 3200000 in
set_option maxRecDepth 100000 in
theorem Null_a {w0 w : World} {b0 : Option Nat} {N e : Nat} {s : St} {l : List UInt8}  (_ : Base w0 b0 N) (h : EncF w0 b0 N e s w) (ho : s.out = l ++ [91]) (hlen : s.out.length + 200 ≤ lim) :
    Calls Tryz.prog 160 #[.pointer (some ⟨e, 0, none⟩)] w fun ev w' => ev = .returned (.tuple #[]) ∧ EncF w0 b0 N e (s.add ([110, 117, 108, 108])) w' := by
  have hE0H := Lib.hid h
  have hl := Lib.hid hlen
  have hb5 : 200 ≤ 1099511627776 := by have : s.out.length + 200 ≤ 1099511627776 := hlen; omega
  have hesc := Lib.hid True.intro
  clear h hlen
  go_enter Tryz.func160, Tryz.ntmps160
  go_wp2_with (first
    | (go_at_call 30; refine (grow_at _ (5) (by omega) hE0H.out (by unfold lim; omega) (Nat.le_trans (by have := hesc.out; first | omega | (simp; done) | (simp; omega)) hl.out)).mono ?_; rintro ev w1 ⟨rfl, hE1⟩; have hE1H := Lib.hid hE1; clear hE1 hE0H)
    | (go_at_call 195; refine (getPreviousRune_any hE1H.out (by first | exact ho | simpa only [St.add_nil] using ho) (Nat.le_trans (by have := hesc.out; first | omega | (simp; done) | (simp; omega)) hl.out)).mono ?_; rintro ev wp ⟨rfl, rfl⟩)
    | (go_at_call 70; refine (writeString_at ⟨#[110, 117, 108, 108]⟩ 4 rfl hE1H.out (by decide) (Nat.le_trans (by have := hesc.out; first | omega | (simp; done) | (simp; omega)) hl.out)).mono ?_; rintro ev w2 ⟨rfl, hE2⟩; have hE2H := Lib.hid hE2; clear hE2 hE1H)
    )
  first | go_end0 | refine bodyPost_ret (results_none rfl _ _ _) rfl ?_
  refine ⟨rfl, ?_⟩
  have hz := hE2H.out
  exact hz.cast (by simp [St.add])

set_option maxHeartbeats 3200000 in
set_option maxRecDepth 100000 in
theorem Null_b {w0 w : World} {b0 : Option Nat} {N e : Nat} {s : St} {l : List UInt8}  (_ : Base w0 b0 N) (h : EncF w0 b0 N e s w) {c : UInt8} (hc : c ≠ 91) (ho : s.out = l ++ [c]) (hlen : s.out.length + 200 ≤ lim) :
    Calls Tryz.prog 160 #[.pointer (some ⟨e, 0, none⟩)] w fun ev w' => ev = .returned (.tuple #[]) ∧ EncF w0 b0 N e (s.add ([44] ++ [110, 117, 108, 108])) w' := by
  have hE0H := Lib.hid h
  have hl := Lib.hid hlen
  have hb5 : 200 ≤ 1099511627776 := by have : s.out.length + 200 ≤ 1099511627776 := hlen; omega
  have hesc := Lib.hid True.intro
  clear h hlen
  have hcn : (((c.toNat : Nat) : Int) != 91) = true := by
    rw [bne_iff_ne]
    intro hx
    apply hc
    apply UInt8.toNat_inj.1
    have h9 : (91 : UInt8).toNat = 91 := rfl
    rw [h9]
    omega
  go_enter Tryz.func160, Tryz.ntmps160
  go_wp2_with (first
    | (go_at_call 30; refine (grow_at _ (5) (by omega) hE0H.out (by unfold lim; omega) (Nat.le_trans (by have := hesc.out; first | omega | (simp; done) | (simp; omega)) hl.out)).mono ?_; rintro ev w1 ⟨rfl, hE1⟩; have hE1H := Lib.hid hE1; clear hE1 hE0H)
    | (go_at_call 195; refine (getPreviousRune_any hE1H.out (by first | exact ho | simpa only [St.add_nil] using ho) (Nat.le_trans (by have := hesc.out; first | omega | (simp; done) | (simp; omega)) hl.out)).mono ?_; rintro ev wp ⟨rfl, rfl⟩)
    | (go_at_call 31; refine (writeByte_any 44 hE1H.out (Nat.le_trans (by have := hesc.out; first | omega | (simp; done) | (simp; omega)) hl.out)).mono ?_; rintro ev w2 ⟨rfl, hE2⟩; have hE2H := Lib.hid hE2; clear hE2 hE1H)
    | (go_at_call 70; refine (writeString_at ⟨#[110, 117, 108, 108]⟩ 4 rfl hE2H.out (by decide) (Nat.le_trans (by have := hesc.out; first | omega | (simp; done) | (simp; omega)) hl.out)).mono ?_; rintro ev w3 ⟨rfl, hE3⟩; have hE3H := Lib.hid hE3; clear hE3 hE2H)
    )
  first | go_end0 | refine bodyPost_ret (results_none rfl _ _ _) rfl ?_
  refine ⟨rfl, ?_⟩
  have hz := hE3H.out
  exact hz.cast (by simp [St.add])

set_option maxHeartbeats 3200000 in
set_option maxRecDepth 100000 in
theorem NullKey_a {w0 w : World} {b0 : Option Nat} {N e : Nat} {s : St} {l : List UInt8} {key : ByteArray} (_ : Base w0 b0 N) (h : EncF w0 b0 N e s w) (ho : s.out = l ++ [123]) (hhk : s.hk = false) (hlen : s.out.length + (6 * key.size + 200) ≤ lim) :
    Calls Tryz.prog 181 #[.pointer (some ⟨e, 0, none⟩), .string key] w fun ev w' => ev = .returned (.tuple #[]) ∧ EncF w0 b0 N e (s.add ([34] ++ esc key.data.toList ++ [34, 58] ++ [110, 117, 108, 108])) w' := by
  have hE0H := Lib.hid h
  have hl := Lib.hid hlen
  have hb5 : (6 * key.size + 200) ≤ 1099511627776 := by have : s.out.length + (6 * key.size + 200) ≤ 1099511627776 := hlen; omega
  have hesc := Lib.hid (esc_len key.data.toList)
  have hsz_key : key.data.toList.length = key.size := rfl
  obtain ⟨bbK, hEK, hFK⟩ := h
  obtain ⟨vK, _, _, _, _, _, c4K, _, hfzK, hesK, _, _⟩ := hEK.cells
  rw [hhk] at c4K
  clear hEK hFK hfzK hlen
  go_enter Tryz.func181, Tryz.ntmps181
  go_wp2_with (first
    | (go_at_call 30; refine (grow_at _ (5 + key.size) (by omega) hE0H.out (by unfold lim; omega) (Nat.le_trans (by have := hesc.out; first | omega | (simp; done) | (simp; omega)) hl.out)).mono ?_; rintro ev w1 ⟨rfl, hE1⟩; have hE1H := Lib.hid hE1; clear hE1 hE0H)
    | (go_at_call 195; refine (getPreviousRune_any hE1H.out (by first | exact ho | simpa only [St.add_nil] using ho) (Nat.le_trans (by have := hesc.out; first | omega | (simp; done) | (simp; omega)) hl.out)).mono ?_; rintro ev wp ⟨rfl, rfl⟩)
    | (go_at_call 31; refine (writeByte_any 34 hE1H.out (Nat.le_trans (by have := hesc.out; first | omega | (simp; done) | (simp; omega)) hl.out)).mono ?_; rintro ev w2 ⟨rfl, hE2⟩; have hE2H := Lib.hid hE2; clear hE2 hE1H)
    | (go_at_call 69; refine (writeStringEscape_any key hE2H.out (Nat.le_trans (by have := hesc.out; first | omega | (simp; done) | (simp; omega)) hl.out)).mono ?_; rintro ev w3 ⟨rfl, hE3⟩; have hE3H := Lib.hid hE3; clear hE3 hE2H)
    | (go_at_call 70; refine (writeString_at ⟨#[34, 58]⟩ 2 rfl hE3H.out (by decide) (Nat.le_trans (by have := hesc.out; first | omega | (simp; done) | (simp; omega)) hl.out)).mono ?_; rintro ev w4 ⟨rfl, hE4⟩; have hE4H := Lib.hid hE4; clear hE4 hE3H)
    | (go_at_call 70; refine (writeString_at ⟨#[110, 117, 108, 108]⟩ 4 rfl hE4H.out (by decide) (Nat.le_trans (by have := hesc.out; first | omega | (simp; done) | (simp; omega)) hl.out)).mono ?_; rintro ev w5 ⟨rfl, hE5⟩; have hE5H := Lib.hid hE5; clear hE5 hE4H)
    )
  first | go_end0 | refine bodyPost_ret (results_none rfl _ _ _) rfl ?_
  refine ⟨rfl, ?_⟩
  have hz := hE5H.out
  exact hz.cast (by simp [St.add])

set_option maxHeartbeats 3200000 in
set_option maxRecDepth 100000 in
theorem NullKey_b {w0 w : World} {b0 : Option Nat} {N e : Nat} {s : St} {l : List UInt8} {key : ByteArray} (_ : Base w0 b0 N) (h : EncF w0 b0 N e s w) {c : UInt8} (hc : c ≠ 123) (ho : s.out = l ++ [c]) (hhk : s.hk = false) (hlen : s.out.length + (6 * key.size + 200) ≤ lim) :
    Calls Tryz.prog 181 #[.pointer (some ⟨e, 0, none⟩), .string key] w fun ev w' => ev = .returned (.tuple #[]) ∧ EncF w0 b0 N e (s.add ([44] ++ [34] ++ esc key.data.toList ++ [34, 58] ++ [110, 117, 108, 108])) w' := by
  have hE0H := Lib.hid h
  have hl := Lib.hid hlen
  have hb5 : (6 * key.size + 200) ≤ 1099511627776 := by have : s.out.length + (6 * key.size + 200) ≤ 1099511627776 := hlen; omega
  have hesc := Lib.hid (esc_len key.data.toList)
  have hsz_key : key.data.toList.length = key.size := rfl
  obtain ⟨bbK, hEK, hFK⟩ := h
  obtain ⟨vK, _, _, _, _, _, c4K, _, hfzK, hesK, _, _⟩ := hEK.cells
  rw [hhk] at c4K
  clear hEK hFK hfzK hlen
  have hcn : (((c.toNat : Nat) : Int) != 123) = true := by
    rw [bne_iff_ne]
    intro hx
    apply hc
    apply UInt8.toNat_inj.1
    have h9 : (123 : UInt8).toNat = 123 := rfl
    rw [h9]
    omega
  go_enter Tryz.func181, Tryz.ntmps181
  go_wp2_with (first
    | (go_at_call 30; refine (grow_at _ (5 + key.size) (by omega) hE0H.out (by unfold lim; omega) (Nat.le_trans (by have := hesc.out; first | omega | (simp; done) | (simp; omega)) hl.out)).mono ?_; rintro ev w1 ⟨rfl, hE1⟩; have hE1H := Lib.hid hE1; clear hE1 hE0H)
    | (go_at_call 195; refine (getPreviousRune_any hE1H.out (by first | exact ho | simpa only [St.add_nil] using ho) (Nat.le_trans (by have := hesc.out; first | omega | (simp; done) | (simp; omega)) hl.out)).mono ?_; rintro ev wp ⟨rfl, rfl⟩)
    | (go_at_call 31; refine (writeByte_any 44 hE1H.out (Nat.le_trans (by have := hesc.out; first | omega | (simp; done) | (simp; omega)) hl.out)).mono ?_; rintro ev w2 ⟨rfl, hE2⟩; have hE2H := Lib.hid hE2; clear hE2 hE1H)
    | (go_at_call 31; refine (writeByte_any 34 hE2H.out (Nat.le_trans (by have := hesc.out; first | omega | (simp; done) | (simp; omega)) hl.out)).mono ?_; rintro ev w3 ⟨rfl, hE3⟩; have hE3H := Lib.hid hE3; clear hE3 hE2H)
    | (go_at_call 69; refine (writeStringEscape_any key hE3H.out (Nat.le_trans (by have := hesc.out; first | omega | (simp; done) | (simp; omega)) hl.out)).mono ?_; rintro ev w4 ⟨rfl, hE4⟩; have hE4H := Lib.hid hE4; clear hE4 hE3H)
    | (go_at_call 70; refine (writeString_at ⟨#[34, 58]⟩ 2 rfl hE4H.out (by decide) (Nat.le_trans (by have := hesc.out; first | omega | (simp; done) | (simp; omega)) hl.out)).mono ?_; rintro ev w5 ⟨rfl, hE5⟩; have hE5H := Lib.hid hE5; clear hE5 hE4H)
    | (go_at_call 70; refine (writeString_at ⟨#[110, 117, 108, 108]⟩ 4 rfl hE5H.out (by decide) (Nat.le_trans (by have := hesc.out; first | omega | (simp; done) | (simp; omega)) hl.out)).mono ?_; rintro ev w6 ⟨rfl, hE6⟩; have hE6H := Lib.hid hE6; clear hE6 hE5H)
    )
  first | go_end0 | refine bodyPost_ret (results_none rfl _ _ _) rfl ?_
  refine ⟨rfl, ?_⟩
  have hz := hE6H.out
  exact hz.cast (by simp [St.add])

end Go.Proofs.YtokmkkkanphihaaGreatRDoor
