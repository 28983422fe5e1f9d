/- The encoder's doors that leave out, or write null for, what is empty (written by genM2.py). -/
import Derived.Test.YtokmkkkanphihaaGreatRDoorYVal
namespace Go.Proofs.YtokmkkkanphihaaGreatRDoor
open Go.RowKit Go.Sort

set_option maxHeartbeats 3200000 in
set_option maxRecDepth 100000 in
theorem ArrayNull0_a {w0 w : World} {b0 : Option Nat} {N e : Nat} {s : St} {l : List UInt8} {b o cc : Nat} {ao : Option Addr} {way : Int} (hB : Base w0 b0 N) (h : EncF w0 b0 N e s w) (ho : s.out = l ++ [91]) (hlen : s.out.length + (200) ≤ lim) (hbN : b < N) (hc40 : w0.cell? ⟨b, o + 4, none⟩ = some (.slice ao 0 cc)) :
    Calls Tryz.prog 165 #[.pointer (some ⟨e, 0, none⟩), .iface 44 (.agg #[.pointer (some ⟨b, o, none⟩), .int .i64 way])] w fun ev w' => ev = .returned (.tuple #[]) ∧ EncF w0 b0 N e (s.add ([110, 117, 108, 108])) w' := by
  have hE0H := Lib.hid h
  have hl := Lib.hid hlen
  have hb5 : (200) ≤ 1099511627776 := by have : s.out.length + (200) ≤ 1099511627776 := hlen; omega
  have hesc := Lib.hid True.intro
  clear h hlen
  have hc4 := Lib.hid hc40
  clear hc40
  go_enter Tryz.func165, Tryz.ntmps165
  go_wp2_with (first
    | (go_at_call 30; refine (grow_at _ (4) (by omega) hE0H.out (by unfold lim; omega) (Nat.le_trans (by have := hesc.out; first | omega | (simp; done) | (simp; omega)) hl.out)).mono ?_; rintro ev w1 ⟨rfl, hE1⟩; have hE1H := Lib.hid hE1; clear hE1 hE0H)
    | (go_at_call 195; refine (getPreviousRune_any hE1H.out (by first | exact ho | simpa only [St.add_nil] using ho) (Nat.le_trans (by have := hesc.out; first | omega | (simp; done) | (simp; omega)) hl.out)).mono ?_; rintro ev wp ⟨rfl, rfl⟩)
    | (go_at_call 144; refine (IsNil_any way ((hE1H.out.cell_low hB hbN _).trans hc4.out)).mono ?_; rintro ev wq2 ⟨rfl, x2, rfl⟩; have hE2H := Lib.hid (hE1H.out.alloc x2); clear hE1H)
    | (go_at_call 70; refine (writeString_at ⟨#[110, 117, 108, 108]⟩ 4 rfl hE2H.out (by decide) (Nat.le_trans (by have := hesc.out; first | omega | (simp; done) | (simp; omega)) hl.out)).mono ?_; rintro ev w3 ⟨rfl, hE3⟩; have hE3H := Lib.hid hE3; clear hE3 hE2H)
    )
  first | go_end0 | refine bodyPost_ret (results_none rfl _ _ _) rfl ?_
  refine ⟨rfl, ?_⟩
  have hz := hE3H.out
  exact hz.cast (by simp [St.add])

set_option maxHeartbeats 3200000 in
set_option maxRecDepth 100000 in
theorem ArrayNull0_b {w0 w : World} {b0 : Option Nat} {N e : Nat} {s : St} {l : List UInt8} {b o cc : Nat} {ao : Option Addr} {way : Int} (hB : Base w0 b0 N) (h : EncF w0 b0 N e s w) {c : UInt8} (hc : c ≠ 91) (ho : s.out = l ++ [c]) (hlen : s.out.length + (200) ≤ lim) (hbN : b < N) (hc40 : w0.cell? ⟨b, o + 4, none⟩ = some (.slice ao 0 cc)) :
    Calls Tryz.prog 165 #[.pointer (some ⟨e, 0, none⟩), .iface 44 (.agg #[.pointer (some ⟨b, o, none⟩), .int .i64 way])] w fun ev w' => ev = .returned (.tuple #[]) ∧ EncF w0 b0 N e (s.add ([44] ++ [110, 117, 108, 108])) w' := by
  have hE0H := Lib.hid h
  have hl := Lib.hid hlen
  have hb5 : (200) ≤ 1099511627776 := by have : s.out.length + (200) ≤ 1099511627776 := hlen; omega
  have hesc := Lib.hid True.intro
  clear h hlen
  have hcn : (((c.toNat : Nat) : Int) != 91) = true := by
    rw [bne_iff_ne]
    intro hx
    apply hc
    apply UInt8.toNat_inj.1
    have h9 : (91 : UInt8).toNat = 91 := rfl
    rw [h9]
    omega
  have hc4 := Lib.hid hc40
  clear hc40
  go_enter Tryz.func165, Tryz.ntmps165
  go_wp2_with (first
    | (go_at_call 30; refine (grow_at _ (4) (by omega) hE0H.out (by unfold lim; omega) (Nat.le_trans (by have := hesc.out; first | omega | (simp; done) | (simp; omega)) hl.out)).mono ?_; rintro ev w1 ⟨rfl, hE1⟩; have hE1H := Lib.hid hE1; clear hE1 hE0H)
    | (go_at_call 195; refine (getPreviousRune_any hE1H.out (by first | exact ho | simpa only [St.add_nil] using ho) (Nat.le_trans (by have := hesc.out; first | omega | (simp; done) | (simp; omega)) hl.out)).mono ?_; rintro ev wp ⟨rfl, rfl⟩)
    | (go_at_call 31; refine (writeByte_any 44 hE1H.out (Nat.le_trans (by have := hesc.out; first | omega | (simp; done) | (simp; omega)) hl.out)).mono ?_; rintro ev w2 ⟨rfl, hE2⟩; have hE2H := Lib.hid hE2; clear hE2 hE1H)
    | (go_at_call 144; refine (IsNil_any way ((hE2H.out.cell_low hB hbN _).trans hc4.out)).mono ?_; rintro ev wq3 ⟨rfl, x3, rfl⟩; have hE3H := Lib.hid (hE2H.out.alloc x3); clear hE2H)
    | (go_at_call 70; refine (writeString_at ⟨#[110, 117, 108, 108]⟩ 4 rfl hE3H.out (by decide) (Nat.le_trans (by have := hesc.out; first | omega | (simp; done) | (simp; omega)) hl.out)).mono ?_; rintro ev w4 ⟨rfl, hE4⟩; have hE4H := Lib.hid hE4; clear hE4 hE3H)
    )
  first | go_end0 | refine bodyPost_ret (results_none rfl _ _ _) rfl ?_
  refine ⟨rfl, ?_⟩
  have hz := hE4H.out
  exact hz.cast (by simp [St.add])

set_option maxHeartbeats 3200000 in
set_option maxRecDepth 100000 in
theorem ArrayNull_a {w0 w : World} {b0 : Option Nat} {N e : Nat} {s : St} {l : List UInt8} {b o n cc : Nat} {ao : Option Addr} {way : Int} {T : List UInt8} {K : Nat} (hB : Base w0 b0 N) (h : EncF w0 b0 N e s w) (ho : s.out = l ++ [91]) (hlen : s.out.length + (K + 300) ≤ lim) (hhk : s.hk = false) (hks : s.ks = .slice none 0 0) (hbN : b < N) (hn : (n == 0) = false) (hc40 : w0.cell? ⟨b, o + 4, none⟩ = some (.slice ao n cc)) (hmar0 : Writes 145 (.agg #[.pointer (some ⟨b, o, none⟩), .int .i64 way]) w0 b0 N e 91 T K) :
    Calls Tryz.prog 165 #[.pointer (some ⟨e, 0, none⟩), .iface 44 (.agg #[.pointer (some ⟨b, o, none⟩), .int .i64 way])] w fun ev w' => ev = .returned (.tuple #[]) ∧ EncF w0 b0 N e (s.add ([91] ++ T ++ [93])) w' := by
  have hE0H := Lib.hid h
  have hl := Lib.hid hlen
  have hb5 : (K + 300) ≤ 1099511627776 := by have : s.out.length + (K + 300) ≤ 1099511627776 := hlen; omega
  have hesc := Lib.hid True.intro
  clear h hlen
  have hTK := hmar0.1
  have hc4 := Lib.hid hc40
  clear hc40
  have hmar := Lib.hid hmar0
  clear hmar0
  go_enter Tryz.func165, Tryz.ntmps165
  go_wp2_with (first
    | (go_at_call 30; refine (grow_at _ (4) (by omega) hE0H.out (by unfold lim; omega) (Nat.le_trans (by have := hesc.out; first | omega | (simp; done) | (simp; omega)) hl.out)).mono ?_; rintro ev w1 ⟨rfl, hE1⟩; have hE1H := Lib.hid hE1; clear hE1 hE0H)
    | (go_at_call 195; refine (getPreviousRune_any hE1H.out (by first | exact ho | simpa only [St.add_nil] using ho) (Nat.le_trans (by have := hesc.out; first | omega | (simp; done) | (simp; omega)) hl.out)).mono ?_; rintro ev wp ⟨rfl, rfl⟩)
    | (go_at_call 144; refine (IsNil_any way ((hE1H.out.cell_low hB hbN _).trans hc4.out)).mono ?_; rintro ev wq2 ⟨rfl, x2, rfl⟩; have hE2H := Lib.hid (hE1H.out.alloc x2); clear hE1H)
    | (go_at_call 31; refine (writeByte_any 91 hE2H.out (Nat.le_trans (by have := hesc.out; first | omega | (simp; done) | (simp; omega)) hl.out)).mono ?_; rintro ev w3 ⟨rfl, hE3⟩; have hE3H := Lib.hid hE3; clear hE3 hE2H)
    | (go_at_call 145; refine (hmar.out.2 _ _ hE3H.out ⟨_, rfl⟩ hhk hks (Nat.le_trans (by have := hesc.out; first | omega | (simp; done) | (simp; omega)) hl.out)).mono ?_; rintro ev w4 ⟨rfl, hE4⟩; have hE4H := Lib.hid hE4; clear hE4 hE3H)
    | (go_at_call 31; refine (writeByte_any 93 hE4H.out (Nat.le_trans (by have := hesc.out; first | omega | (simp; done) | (simp; omega)) hl.out)).mono ?_; rintro ev w5 ⟨rfl, hE5⟩; have hE5H := Lib.hid hE5; clear hE5 hE4H)
    )
  first | go_end0 | refine bodyPost_ret (results_none rfl _ _ _) rfl ?_
  refine ⟨rfl, ?_⟩
  have hz := hE5H.out
  exact hz.cast (by simp [St.add])

set_option maxHeartbeats 3200000 in
set_option maxRecDepth 100000 in
theorem ArrayNull_b {w0 w : World} {b0 : Option Nat} {N e : Nat} {s : St} {l : List UInt8} {b o n cc : Nat} {ao : Option Addr} {way : Int} {T : List UInt8} {K : Nat} (hB : Base w0 b0 N) (h : EncF w0 b0 N e s w) {c : UInt8} (hc : c ≠ 91) (ho : s.out = l ++ [c]) (hlen : s.out.length + (K + 300) ≤ lim) (hhk : s.hk = false) (hks : s.ks = .slice none 0 0) (hbN : b < N) (hn : (n == 0) = false) (hc40 : w0.cell? ⟨b, o + 4, none⟩ = some (.slice ao n cc)) (hmar0 : Writes 145 (.agg #[.pointer (some ⟨b, o, none⟩), .int .i64 way]) w0 b0 N e 91 T K) :
    Calls Tryz.prog 165 #[.pointer (some ⟨e, 0, none⟩), .iface 44 (.agg #[.pointer (some ⟨b, o, none⟩), .int .i64 way])] w fun ev w' => ev = .returned (.tuple #[]) ∧ EncF w0 b0 N e (s.add ([44] ++ [91] ++ T ++ [93])) w' := by
  have hE0H := Lib.hid h
  have hl := Lib.hid hlen
  have hb5 : (K + 300) ≤ 1099511627776 := by have : s.out.length + (K + 300) ≤ 1099511627776 := hlen; omega
  have hesc := Lib.hid True.intro
  clear h hlen
  have hcn : (((c.toNat : Nat) : Int) != 91) = true := by
    rw [bne_iff_ne]
    intro hx
    apply hc
    apply UInt8.toNat_inj.1
    have h9 : (91 : UInt8).toNat = 91 := rfl
    rw [h9]
    omega
  have hTK := hmar0.1
  have hc4 := Lib.hid hc40
  clear hc40
  have hmar := Lib.hid hmar0
  clear hmar0
  go_enter Tryz.func165, Tryz.ntmps165
  go_wp2_with (first
    | (go_at_call 30; refine (grow_at _ (4) (by omega) hE0H.out (by unfold lim; omega) (Nat.le_trans (by have := hesc.out; first | omega | (simp; done) | (simp; omega)) hl.out)).mono ?_; rintro ev w1 ⟨rfl, hE1⟩; have hE1H := Lib.hid hE1; clear hE1 hE0H)
    | (go_at_call 195; refine (getPreviousRune_any hE1H.out (by first | exact ho | simpa only [St.add_nil] using ho) (Nat.le_trans (by have := hesc.out; first | omega | (simp; done) | (simp; omega)) hl.out)).mono ?_; rintro ev wp ⟨rfl, rfl⟩)
    | (go_at_call 31; refine (writeByte_any 44 hE1H.out (Nat.le_trans (by have := hesc.out; first | omega | (simp; done) | (simp; omega)) hl.out)).mono ?_; rintro ev w2 ⟨rfl, hE2⟩; have hE2H := Lib.hid hE2; clear hE2 hE1H)
    | (go_at_call 144; refine (IsNil_any way ((hE2H.out.cell_low hB hbN _).trans hc4.out)).mono ?_; rintro ev wq3 ⟨rfl, x3, rfl⟩; have hE3H := Lib.hid (hE2H.out.alloc x3); clear hE2H)
    | (go_at_call 31; refine (writeByte_any 91 hE3H.out (Nat.le_trans (by have := hesc.out; first | omega | (simp; done) | (simp; omega)) hl.out)).mono ?_; rintro ev w4 ⟨rfl, hE4⟩; have hE4H := Lib.hid hE4; clear hE4 hE3H)
    | (go_at_call 145; refine (hmar.out.2 _ _ hE4H.out ⟨_, rfl⟩ hhk hks (Nat.le_trans (by have := hesc.out; first | omega | (simp; done) | (simp; omega)) hl.out)).mono ?_; rintro ev w5 ⟨rfl, hE5⟩; have hE5H := Lib.hid hE5; clear hE5 hE4H)
    | (go_at_call 31; refine (writeByte_any 93 hE5H.out (Nat.le_trans (by have := hesc.out; first | omega | (simp; done) | (simp; omega)) hl.out)).mono ?_; rintro ev w6 ⟨rfl, hE6⟩; have hE6H := Lib.hid hE6; clear hE6 hE5H)
    )
  first | go_end0 | refine bodyPost_ret (results_none rfl _ _ _) rfl ?_
  refine ⟨rfl, ?_⟩
  have hz := hE6H.out
  exact hz.cast (by simp [St.add])

set_option maxHeartbeats 3200000 in
set_option maxRecDepth 100000 in
theorem ArrayKeyNull_a {w0 w : World} {b0 : Option Nat} {N e : Nat} {s : St} {l : List UInt8} {key : ByteArray} {b o n cc : Nat} {ao : Option Addr} {way : Int} {T : List UInt8} {K : Nat} (hB : Base w0 b0 N) (h : EncF w0 b0 N e s w) (ho : s.out = l ++ [123]) (hhk : s.hk = false) (hlen : s.out.length + (6 * key.size + K + 300) ≤ lim) (hks : s.ks = .slice none 0 0) (hbN : b < N) (hn : (n == 0) = false) (hc40 : w0.cell? ⟨b, o + 4, none⟩ = some (.slice ao n cc)) (hmar0 : Writes 145 (.agg #[.pointer (some ⟨b, o, none⟩), .int .i64 way]) w0 b0 N e 91 T K) :
    Calls Tryz.prog 186 #[.pointer (some ⟨e, 0, none⟩), .string key, .iface 44 (.agg #[.pointer (some ⟨b, o, none⟩), .int .i64 way])] w fun ev w' => ev = .returned (.tuple #[]) ∧ EncF w0 b0 N e (s.add ([34] ++ esc key.data.toList ++ [34, 58, 91] ++ T ++ [93])) w' := by
  have hE0H := Lib.hid h
  have hl := Lib.hid hlen
  have hb5 : (6 * key.size + K + 300) ≤ 1099511627776 := by have : s.out.length + (6 * key.size + K + 300) ≤ 1099511627776 := hlen; omega
  have hesc := Lib.hid (esc_len key.data.toList)
  have hsz_key : key.data.toList.length = key.size := rfl
  obtain ⟨bbK, hEK, hFK⟩ := h
  obtain ⟨vK, _, _, _, _, _, c4K, _, hfzK, hesK, _, _⟩ := hEK.cells
  rw [hhk] at c4K
  clear hEK hFK hfzK hlen
  have hTK := hmar0.1
  have hc4 := Lib.hid hc40
  clear hc40
  have hmar := Lib.hid hmar0
  clear hmar0
  go_enter Tryz.func186, Tryz.ntmps186
  go_wp2_with (first
    | (go_at_call 30; refine (grow_at _ (5 + key.size) (by omega) hE0H.out (by unfold lim; omega) (Nat.le_trans (by have := hesc.out; first | omega | (simp; done) | (simp; omega)) hl.out)).mono ?_; rintro ev w1 ⟨rfl, hE1⟩; have hE1H := Lib.hid hE1; clear hE1 hE0H)
    | (go_at_call 195; refine (getPreviousRune_any hE1H.out (by first | exact ho | simpa only [St.add_nil] using ho) (Nat.le_trans (by have := hesc.out; first | omega | (simp; done) | (simp; omega)) hl.out)).mono ?_; rintro ev wp ⟨rfl, rfl⟩)
    | (go_at_call 144; refine (IsNil_any way ((hE1H.out.cell_low hB hbN _).trans hc4.out)).mono ?_; rintro ev wq2 ⟨rfl, x2, rfl⟩; have hE2H := Lib.hid (hE1H.out.alloc x2); clear hE1H)
    | (go_at_call 31; refine (writeByte_any 34 hE2H.out (Nat.le_trans (by have := hesc.out; first | omega | (simp; done) | (simp; omega)) hl.out)).mono ?_; rintro ev w3 ⟨rfl, hE3⟩; have hE3H := Lib.hid hE3; clear hE3 hE2H)
    | (go_at_call 69; refine (writeStringEscape_any key hE3H.out (Nat.le_trans (by have := hesc.out; first | omega | (simp; done) | (simp; omega)) hl.out)).mono ?_; rintro ev w4 ⟨rfl, hE4⟩; have hE4H := Lib.hid hE4; clear hE4 hE3H)
    | (go_at_call 70; refine (writeString_at ⟨#[34, 58, 91]⟩ 3 rfl hE4H.out (by decide) (Nat.le_trans (by have := hesc.out; first | omega | (simp; done) | (simp; omega)) hl.out)).mono ?_; rintro ev w5 ⟨rfl, hE5⟩; have hE5H := Lib.hid hE5; clear hE5 hE4H)
    | (go_at_call 145; refine (hmar.out.2 _ _ hE5H.out ⟨_, (List.append_assoc _ [34, 58] [91]).symm⟩ hhk hks (Nat.le_trans (by have := hesc.out; first | omega | (simp; done) | (simp; omega)) hl.out)).mono ?_; rintro ev w6 ⟨rfl, hE6⟩; have hE6H := Lib.hid hE6; clear hE6 hE5H)
    | (go_at_call 31; refine (writeByte_any 93 hE6H.out (Nat.le_trans (by have := hesc.out; first | omega | (simp; done) | (simp; omega)) hl.out)).mono ?_; rintro ev w7 ⟨rfl, hE7⟩; have hE7H := Lib.hid hE7; clear hE7 hE6H)
    )
  first | go_end0 | refine bodyPost_ret (results_none rfl _ _ _) rfl ?_
  refine ⟨rfl, ?_⟩
  have hz := hE7H.out
  exact hz.cast (by simp [St.add])

set_option maxHeartbeats 3200000 in
set_option maxRecDepth 100000 in
theorem ArrayKeyNull_b {w0 w : World} {b0 : Option Nat} {N e : Nat} {s : St} {l : List UInt8} {key : ByteArray} {b o n cc : Nat} {ao : Option Addr} {way : Int} {T : List UInt8} {K : Nat} (hB : Base w0 b0 N) (h : EncF w0 b0 N e s w) {c : UInt8} (hc : c ≠ 123) (ho : s.out = l ++ [c]) (hhk : s.hk = false) (hlen : s.out.length + (6 * key.size + K + 300) ≤ lim) (hks : s.ks = .slice none 0 0) (hbN : b < N) (hn : (n == 0) = false) (hc40 : w0.cell? ⟨b, o + 4, none⟩ = some (.slice ao n cc)) (hmar0 : Writes 145 (.agg #[.pointer (some ⟨b, o, none⟩), .int .i64 way]) w0 b0 N e 91 T K) :
    Calls Tryz.prog 186 #[.pointer (some ⟨e, 0, none⟩), .string key, .iface 44 (.agg #[.pointer (some ⟨b, o, none⟩), .int .i64 way])] w fun ev w' => ev = .returned (.tuple #[]) ∧ EncF w0 b0 N e (s.add ([44] ++ [34] ++ esc key.data.toList ++ [34, 58, 91] ++ T ++ [93])) w' := by
  have hE0H := Lib.hid h
  have hl := Lib.hid hlen
  have hb5 : (6 * key.size + K + 300) ≤ 1099511627776 := by have : s.out.length + (6 * key.size + K + 300) ≤ 1099511627776 := hlen; omega
  have hesc := Lib.hid (esc_len key.data.toList)
  have hsz_key : key.data.toList.length = key.size := rfl
  obtain ⟨bbK, hEK, hFK⟩ := h
  obtain ⟨vK, _, _, _, _, _, c4K, _, hfzK, hesK, _, _⟩ := hEK.cells
  rw [hhk] at c4K
  clear hEK hFK hfzK hlen
  have hcn : (((c.toNat : Nat) : Int) != 123) = true := by
    rw [bne_iff_ne]
    intro hx
    apply hc
    apply UInt8.toNat_inj.1
    have h9 : (123 : UInt8).toNat = 123 := rfl
    rw [h9]
    omega
  have hTK := hmar0.1
  have hc4 := Lib.hid hc40
  clear hc40
  have hmar := Lib.hid hmar0
  clear hmar0
  go_enter Tryz.func186, Tryz.ntmps186
  go_wp2_with (first
    | (go_at_call 30; refine (grow_at _ (5 + key.size) (by omega) hE0H.out (by unfold lim; omega) (Nat.le_trans (by have := hesc.out; first | omega | (simp; done) | (simp; omega)) hl.out)).mono ?_; rintro ev w1 ⟨rfl, hE1⟩; have hE1H := Lib.hid hE1; clear hE1 hE0H)
    | (go_at_call 195; refine (getPreviousRune_any hE1H.out (by first | exact ho | simpa only [St.add_nil] using ho) (Nat.le_trans (by have := hesc.out; first | omega | (simp; done) | (simp; omega)) hl.out)).mono ?_; rintro ev wp ⟨rfl, rfl⟩)
    | (go_at_call 31; refine (writeByte_any 44 hE1H.out (Nat.le_trans (by have := hesc.out; first | omega | (simp; done) | (simp; omega)) hl.out)).mono ?_; rintro ev w2 ⟨rfl, hE2⟩; have hE2H := Lib.hid hE2; clear hE2 hE1H)
    | (go_at_call 144; refine (IsNil_any way ((hE2H.out.cell_low hB hbN _).trans hc4.out)).mono ?_; rintro ev wq3 ⟨rfl, x3, rfl⟩; have hE3H := Lib.hid (hE2H.out.alloc x3); clear hE2H)
    | (go_at_call 31; refine (writeByte_any 34 hE3H.out (Nat.le_trans (by have := hesc.out; first | omega | (simp; done) | (simp; omega)) hl.out)).mono ?_; rintro ev w4 ⟨rfl, hE4⟩; have hE4H := Lib.hid hE4; clear hE4 hE3H)
    | (go_at_call 69; refine (writeStringEscape_any key hE4H.out (Nat.le_trans (by have := hesc.out; first | omega | (simp; done) | (simp; omega)) hl.out)).mono ?_; rintro ev w5 ⟨rfl, hE5⟩; have hE5H := Lib.hid hE5; clear hE5 hE4H)
    | (go_at_call 70; refine (writeString_at ⟨#[34, 58, 91]⟩ 3 rfl hE5H.out (by decide) (Nat.le_trans (by have := hesc.out; first | omega | (simp; done) | (simp; omega)) hl.out)).mono ?_; rintro ev w6 ⟨rfl, hE6⟩; have hE6H := Lib.hid hE6; clear hE6 hE5H)
    | (go_at_call 145; refine (hmar.out.2 _ _ hE6H.out ⟨_, (List.append_assoc _ [34, 58] [91]).symm⟩ hhk hks (Nat.le_trans (by have := hesc.out; first | omega | (simp; done) | (simp; omega)) hl.out)).mono ?_; rintro ev w7 ⟨rfl, hE7⟩; have hE7H := Lib.hid hE7; clear hE7 hE6H)
    | (go_at_call 31; refine (writeByte_any 93 hE7H.out (Nat.le_trans (by have := hesc.out; first | omega | (simp; done) | (simp; omega)) hl.out)).mono ?_; rintro ev w8 ⟨rfl, hE8⟩; have hE8H := Lib.hid hE8; clear hE8 hE7H)
    )
  first | go_end0 | refine bodyPost_ret (results_none rfl _ _ _) rfl ?_
  refine ⟨rfl, ?_⟩
  have hz := hE8H.out
  exact hz.cast (by simp [St.add])

set_option maxHeartbeats 3200000 in
set_option maxRecDepth 100000 in
theorem ObjectNull0_a {w0 w : World} {b0 : Option Nat} {N e : Nat} {s : St} {l : List UInt8} {b o cc : Nat} {ao : Option Addr} {way : Int} (hB : Base w0 b0 N) (h : EncF w0 b0 N e s w) (ho : s.out = l ++ [91]) (hlen : s.out.length + (200) ≤ lim) (hbN : b < N) (hc40 : w0.cell? ⟨b, o + 4, none⟩ = some (.slice ao 0 cc)) :
    Calls Tryz.prog 166 #[.pointer (some ⟨e, 0, none⟩), .iface 44 (.agg #[.pointer (some ⟨b, o, none⟩), .int .i64 way])] w fun ev w' => ev = .returned (.tuple #[]) ∧ EncF w0 b0 N e (s.add ([110, 117, 108, 108])) w' := by
  have hE0H := Lib.hid h
  have hl := Lib.hid hlen
  have hb5 : (200) ≤ 1099511627776 := by have : s.out.length + (200) ≤ 1099511627776 := hlen; omega
  have hesc := Lib.hid True.intro
  clear h hlen
  have hc4 := Lib.hid hc40
  clear hc40
  go_enter Tryz.func166, Tryz.ntmps166
  go_wp2_with (first
    | (go_at_call 30; refine (grow_at _ (2) (by omega) hE0H.out (by unfold lim; omega) (Nat.le_trans (by have := hesc.out; first | omega | (simp; done) | (simp; omega)) hl.out)).mono ?_; rintro ev w1 ⟨rfl, hE1⟩; have hE1H := Lib.hid hE1; clear hE1 hE0H)
    | (go_at_call 195; refine (getPreviousRune_any hE1H.out (by first | exact ho | simpa only [St.add_nil] using ho) (Nat.le_trans (by have := hesc.out; first | omega | (simp; done) | (simp; omega)) hl.out)).mono ?_; rintro ev wp ⟨rfl, rfl⟩)
    | (go_at_call 144; refine (IsNil_any way ((hE1H.out.cell_low hB hbN _).trans hc4.out)).mono ?_; rintro ev wq2 ⟨rfl, x2, rfl⟩; have hE2H := Lib.hid (hE1H.out.alloc x2); clear hE1H)
    | (go_at_call 70; refine (writeString_at ⟨#[110, 117, 108, 108]⟩ 4 rfl hE2H.out (by decide) (Nat.le_trans (by have := hesc.out; first | omega | (simp; done) | (simp; omega)) hl.out)).mono ?_; rintro ev w3 ⟨rfl, hE3⟩; have hE3H := Lib.hid hE3; clear hE3 hE2H)
    )
  first | go_end0 | refine bodyPost_ret (results_none rfl _ _ _) rfl ?_
  refine ⟨rfl, ?_⟩
  have hz := hE3H.out
  exact hz.cast (by simp [St.add])

set_option maxHeartbeats 3200000 in
set_option maxRecDepth 100000 in
theorem ObjectNull0_b {w0 w : World} {b0 : Option Nat} {N e : Nat} {s : St} {l : List UInt8} {b o cc : Nat} {ao : Option Addr} {way : Int} (hB : Base w0 b0 N) (h : EncF w0 b0 N e s w) {c : UInt8} (hc : c ≠ 91) (ho : s.out = l ++ [c]) (hlen : s.out.length + (200) ≤ lim) (hbN : b < N) (hc40 : w0.cell? ⟨b, o + 4, none⟩ = some (.slice ao 0 cc)) :
    Calls Tryz.prog 166 #[.pointer (some ⟨e, 0, none⟩), .iface 44 (.agg #[.pointer (some ⟨b, o, none⟩), .int .i64 way])] w fun ev w' => ev = .returned (.tuple #[]) ∧ EncF w0 b0 N e (s.add ([44] ++ [110, 117, 108, 108])) w' := by
  have hE0H := Lib.hid h
  have hl := Lib.hid hlen
  have hb5 : (200) ≤ 1099511627776 := by have : s.out.length + (200) ≤ 1099511627776 := hlen; omega
  have hesc := Lib.hid True.intro
  clear h hlen
  have hcn : (((c.toNat : Nat) : Int) != 91) = true := by
    rw [bne_iff_ne]
    intro hx
    apply hc
    apply UInt8.toNat_inj.1
    have h9 : (91 : UInt8).toNat = 91 := rfl
    rw [h9]
    omega
  have hc4 := Lib.hid hc40
  clear hc40
  go_enter Tryz.func166, Tryz.ntmps166
  go_wp2_with (first
    | (go_at_call 30; refine (grow_at _ (2) (by omega) hE0H.out (by unfold lim; omega) (Nat.le_trans (by have := hesc.out; first | omega | (simp; done) | (simp; omega)) hl.out)).mono ?_; rintro ev w1 ⟨rfl, hE1⟩; have hE1H := Lib.hid hE1; clear hE1 hE0H)
    | (go_at_call 195; refine (getPreviousRune_any hE1H.out (by first | exact ho | simpa only [St.add_nil] using ho) (Nat.le_trans (by have := hesc.out; first | omega | (simp; done) | (simp; omega)) hl.out)).mono ?_; rintro ev wp ⟨rfl, rfl⟩)
    | (go_at_call 31; refine (writeByte_any 44 hE1H.out (Nat.le_trans (by have := hesc.out; first | omega | (simp; done) | (simp; omega)) hl.out)).mono ?_; rintro ev w2 ⟨rfl, hE2⟩; have hE2H := Lib.hid hE2; clear hE2 hE1H)
    | (go_at_call 144; refine (IsNil_any way ((hE2H.out.cell_low hB hbN _).trans hc4.out)).mono ?_; rintro ev wq3 ⟨rfl, x3, rfl⟩; have hE3H := Lib.hid (hE2H.out.alloc x3); clear hE2H)
    | (go_at_call 70; refine (writeString_at ⟨#[110, 117, 108, 108]⟩ 4 rfl hE3H.out (by decide) (Nat.le_trans (by have := hesc.out; first | omega | (simp; done) | (simp; omega)) hl.out)).mono ?_; rintro ev w4 ⟨rfl, hE4⟩; have hE4H := Lib.hid hE4; clear hE4 hE3H)
    )
  first | go_end0 | refine bodyPost_ret (results_none rfl _ _ _) rfl ?_
  refine ⟨rfl, ?_⟩
  have hz := hE4H.out
  exact hz.cast (by simp [St.add])

set_option maxHeartbeats 3200000 in
set_option maxRecDepth 100000 in
theorem ObjectNull_a {w0 w : World} {b0 : Option Nat} {N e : Nat} {s : St} {l : List UInt8} {b o n cc : Nat} {ao : Option Addr} {way : Int} {T : List UInt8} {K : Nat} (hB : Base w0 b0 N) (h : EncF w0 b0 N e s w) (ho : s.out = l ++ [91]) (hlen : s.out.length + (K + 300) ≤ lim) (hhk : s.hk = false) (hks : s.ks = .slice none 0 0) (hbN : b < N) (hn : (n == 0) = false) (hc40 : w0.cell? ⟨b, o + 4, none⟩ = some (.slice ao n cc)) (hmar0 : Writes 146 (.agg #[.pointer (some ⟨b, o, none⟩), .int .i64 way]) w0 b0 N e 123 T K) :
    Calls Tryz.prog 166 #[.pointer (some ⟨e, 0, none⟩), .iface 44 (.agg #[.pointer (some ⟨b, o, none⟩), .int .i64 way])] w fun ev w' => ev = .returned (.tuple #[]) ∧ EncF w0 b0 N e (s.add ([123] ++ T ++ [125])) w' := by
  have hE0H := Lib.hid h
  have hl := Lib.hid hlen
  have hb5 : (K + 300) ≤ 1099511627776 := by have : s.out.length + (K + 300) ≤ 1099511627776 := hlen; omega
  have hesc := Lib.hid True.intro
  clear h hlen
  have hTK := hmar0.1
  have hc4 := Lib.hid hc40
  clear hc40
  have hmar := Lib.hid hmar0
  clear hmar0
  go_enter Tryz.func166, Tryz.ntmps166
  go_wp2_with (first
    | (go_at_call 30; refine (grow_at _ (2) (by omega) hE0H.out (by unfold lim; omega) (Nat.le_trans (by have := hesc.out; first | omega | (simp; done) | (simp; omega)) hl.out)).mono ?_; rintro ev w1 ⟨rfl, hE1⟩; have hE1H := Lib.hid hE1; clear hE1 hE0H)
    | (go_at_call 195; refine (getPreviousRune_any hE1H.out (by first | exact ho | simpa only [St.add_nil] using ho) (Nat.le_trans (by have := hesc.out; first | omega | (simp; done) | (simp; omega)) hl.out)).mono ?_; rintro ev wp ⟨rfl, rfl⟩)
    | (go_at_call 144; refine (IsNil_any way ((hE1H.out.cell_low hB hbN _).trans hc4.out)).mono ?_; rintro ev wq2 ⟨rfl, x2, rfl⟩; have hE2H := Lib.hid (hE1H.out.alloc x2); clear hE1H)
    | (go_at_call 31; refine (writeByte_any 123 hE2H.out (Nat.le_trans (by have := hesc.out; first | omega | (simp; done) | (simp; omega)) hl.out)).mono ?_; rintro ev w3 ⟨rfl, hE3⟩; have hE3H := Lib.hid hE3; clear hE3 hE2H; obtain ⟨y4, y5, yf4, yf5, ys4, ys5⟩ := hE3H.out.keys hhk hks)
    | (go_at_call 146; refine (hmar.out.2 _ _ hE3H.out ⟨_, rfl⟩ hhk hks (Nat.le_trans (by have := hesc.out; first | omega | (simp; done) | (simp; omega)) hl.out)).mono ?_; rintro ev w4 ⟨rfl, hE4⟩; have hE4H := Lib.hid hE4; clear hE4 hE3H; obtain ⟨z4, z5, zf4, zf5, zs4, zs5⟩ := hE4H.out.keys hhk hks)
    | (go_at_call 31; refine (writeByte_any 125 hE4H.out (Nat.le_trans (by have := hesc.out; first | omega | (simp; done) | (simp; omega)) hl.out)).mono ?_; rintro ev w5 ⟨rfl, hE5⟩; have hE5H := Lib.hid hE5; clear hE5 hE4H)
    )
  first | go_end0 | refine bodyPost_ret (results_none rfl _ _ _) rfl ?_
  refine ⟨rfl, ?_⟩
  have hz := hE5H.out
  exact hz.cast (by simp [St.add])

set_option maxHeartbeats 3200000 in
set_option maxRecDepth 100000 in
theorem ObjectNull_b {w0 w : World} {b0 : Option Nat} {N e : Nat} {s : St} {l : List UInt8} {b o n cc : Nat} {ao : Option Addr} {way : Int} {T : List UInt8} {K : Nat} (hB : Base w0 b0 N) (h : EncF w0 b0 N e s w) {c : UInt8} (hc : c ≠ 91) (ho : s.out = l ++ [c]) (hlen : s.out.length + (K + 300) ≤ lim) (hhk : s.hk = false) (hks : s.ks = .slice none 0 0) (hbN : b < N) (hn : (n == 0) = false) (hc40 : w0.cell? ⟨b, o + 4, none⟩ = some (.slice ao n cc)) (hmar0 : Writes 146 (.agg #[.pointer (some ⟨b, o, none⟩), .int .i64 way]) w0 b0 N e 123 T K) :
    Calls Tryz.prog 166 #[.pointer (some ⟨e, 0, none⟩), .iface 44 (.agg #[.pointer (some ⟨b, o, none⟩), .int .i64 way])] w fun ev w' => ev = .returned (.tuple #[]) ∧ EncF w0 b0 N e (s.add ([44] ++ [123] ++ T ++ [125])) w' := by
  have hE0H := Lib.hid h
  have hl := Lib.hid hlen
  have hb5 : (K + 300) ≤ 1099511627776 := by have : s.out.length + (K + 300) ≤ 1099511627776 := hlen; omega
  have hesc := Lib.hid True.intro
  clear h hlen
  have hcn : (((c.toNat : Nat) : Int) != 91) = true := by
    rw [bne_iff_ne]
    intro hx
    apply hc
    apply UInt8.toNat_inj.1
    have h9 : (91 : UInt8).toNat = 91 := rfl
    rw [h9]
    omega
  have hTK := hmar0.1
  have hc4 := Lib.hid hc40
  clear hc40
  have hmar := Lib.hid hmar0
  clear hmar0
  go_enter Tryz.func166, Tryz.ntmps166
  go_wp2_with (first
    | (go_at_call 30; refine (grow_at _ (2) (by omega) hE0H.out (by unfold lim; omega) (Nat.le_trans (by have := hesc.out; first | omega | (simp; done) | (simp; omega)) hl.out)).mono ?_; rintro ev w1 ⟨rfl, hE1⟩; have hE1H := Lib.hid hE1; clear hE1 hE0H)
    | (go_at_call 195; refine (getPreviousRune_any hE1H.out (by first | exact ho | simpa only [St.add_nil] using ho) (Nat.le_trans (by have := hesc.out; first | omega | (simp; done) | (simp; omega)) hl.out)).mono ?_; rintro ev wp ⟨rfl, rfl⟩)
    | (go_at_call 31; refine (writeByte_any 44 hE1H.out (Nat.le_trans (by have := hesc.out; first | omega | (simp; done) | (simp; omega)) hl.out)).mono ?_; rintro ev w2 ⟨rfl, hE2⟩; have hE2H := Lib.hid hE2; clear hE2 hE1H)
    | (go_at_call 144; refine (IsNil_any way ((hE2H.out.cell_low hB hbN _).trans hc4.out)).mono ?_; rintro ev wq3 ⟨rfl, x3, rfl⟩; have hE3H := Lib.hid (hE2H.out.alloc x3); clear hE2H)
    | (go_at_call 31; refine (writeByte_any 123 hE3H.out (Nat.le_trans (by have := hesc.out; first | omega | (simp; done) | (simp; omega)) hl.out)).mono ?_; rintro ev w4 ⟨rfl, hE4⟩; have hE4H := Lib.hid hE4; clear hE4 hE3H; obtain ⟨y4, y5, yf4, yf5, ys4, ys5⟩ := hE4H.out.keys hhk hks)
    | (go_at_call 146; refine (hmar.out.2 _ _ hE4H.out ⟨_, rfl⟩ hhk hks (Nat.le_trans (by have := hesc.out; first | omega | (simp; done) | (simp; omega)) hl.out)).mono ?_; rintro ev w5 ⟨rfl, hE5⟩; have hE5H := Lib.hid hE5; clear hE5 hE4H; obtain ⟨z4, z5, zf4, zf5, zs4, zs5⟩ := hE5H.out.keys hhk hks)
    | (go_at_call 31; refine (writeByte_any 125 hE5H.out (Nat.le_trans (by have := hesc.out; first | omega | (simp; done) | (simp; omega)) hl.out)).mono ?_; rintro ev w6 ⟨rfl, hE6⟩; have hE6H := Lib.hid hE6; clear hE6 hE5H)
    )
  first | go_end0 | refine bodyPost_ret (results_none rfl _ _ _) rfl ?_
  refine ⟨rfl, ?_⟩
  have hz := hE6H.out
  exact hz.cast (by simp [St.add])

set_option maxHeartbeats 3200000 in
set_option maxRecDepth 100000 in
theorem ObjectKeyNull0_a {w0 w : World} {b0 : Option Nat} {N e : Nat} {s : St} {l : List UInt8} {key : ByteArray} {b o cc : Nat} {ao : Option Addr} {way : Int} (hB : Base w0 b0 N) (h : EncF w0 b0 N e s w) (ho : s.out = l ++ [123]) (hhk : s.hk = false) (hlen : s.out.length + (6 * key.size + 200) ≤ lim) (hbN : b < N) (hc40 : w0.cell? ⟨b, o + 4, none⟩ = some (.slice ao 0 cc)) :
    Calls Tryz.prog 187 #[.pointer (some ⟨e, 0, none⟩), .string key, .iface 44 (.agg #[.pointer (some ⟨b, o, none⟩), .int .i64 way])] w fun ev w' => ev = .returned (.tuple #[]) ∧ EncF w0 b0 N e (s.add ([34] ++ esc key.data.toList ++ [34, 58] ++ [110, 117, 108, 108])) w' := by
  have hE0H := Lib.hid h
  have hl := Lib.hid hlen
  have hb5 : (6 * key.size + 200) ≤ 1099511627776 := by have : s.out.length + (6 * key.size + 200) ≤ 1099511627776 := hlen; omega
  have hesc := Lib.hid (esc_len key.data.toList)
  have hsz_key : key.data.toList.length = key.size := rfl
  obtain ⟨bbK, hEK, hFK⟩ := h
  obtain ⟨vK, _, _, _, _, _, c4K, _, hfzK, hesK, _, _⟩ := hEK.cells
  rw [hhk] at c4K
  clear hEK hFK hfzK hlen
  have hc4 := Lib.hid hc40
  clear hc40
  go_enter Tryz.func187, Tryz.ntmps187
  go_wp2_with (first
    | (go_at_call 30; refine (grow_at _ (5 + key.size) (by omega) hE0H.out (by unfold lim; omega) (Nat.le_trans (by have := hesc.out; first | omega | (simp; done) | (simp; omega)) hl.out)).mono ?_; rintro ev w1 ⟨rfl, hE1⟩; have hE1H := Lib.hid hE1; clear hE1 hE0H)
    | (go_at_call 195; refine (getPreviousRune_any hE1H.out (by first | exact ho | simpa only [St.add_nil] using ho) (Nat.le_trans (by have := hesc.out; first | omega | (simp; done) | (simp; omega)) hl.out)).mono ?_; rintro ev wp ⟨rfl, rfl⟩)
    | (go_at_call 31; refine (writeByte_any 34 hE1H.out (Nat.le_trans (by have := hesc.out; first | omega | (simp; done) | (simp; omega)) hl.out)).mono ?_; rintro ev w2 ⟨rfl, hE2⟩; have hE2H := Lib.hid hE2; clear hE2 hE1H)
    | (go_at_call 69; refine (writeStringEscape_any key hE2H.out (Nat.le_trans (by have := hesc.out; first | omega | (simp; done) | (simp; omega)) hl.out)).mono ?_; rintro ev w3 ⟨rfl, hE3⟩; have hE3H := Lib.hid hE3; clear hE3 hE2H)
    | (go_at_call 70; refine (writeString_at ⟨#[34, 58]⟩ 2 rfl hE3H.out (by decide) (Nat.le_trans (by have := hesc.out; first | omega | (simp; done) | (simp; omega)) hl.out)).mono ?_; rintro ev w4 ⟨rfl, hE4⟩; have hE4H := Lib.hid hE4; clear hE4 hE3H)
    | (go_at_call 144; refine (IsNil_any way ((hE4H.out.cell_low hB hbN _).trans hc4.out)).mono ?_; rintro ev wq5 ⟨rfl, x5, rfl⟩; have hE5H := Lib.hid (hE4H.out.alloc x5); clear hE4H)
    | (go_at_call 70; refine (writeString_at ⟨#[110, 117, 108, 108]⟩ 4 rfl hE5H.out (by decide) (Nat.le_trans (by have := hesc.out; first | omega | (simp; done) | (simp; omega)) hl.out)).mono ?_; rintro ev w6 ⟨rfl, hE6⟩; have hE6H := Lib.hid hE6; clear hE6 hE5H)
    )
  first | go_end0 | refine bodyPost_ret (results_none rfl _ _ _) rfl ?_
  refine ⟨rfl, ?_⟩
  have hz := hE6H.out
  exact hz.cast (by simp [St.add])

set_option maxHeartbeats 3200000 in
set_option maxRecDepth 100000 in
theorem ObjectKeyNull0_b {w0 w : World} {b0 : Option Nat} {N e : Nat} {s : St} {l : List UInt8} {key : ByteArray} {b o cc : Nat} {ao : Option Addr} {way : Int} (hB : Base w0 b0 N) (h : EncF w0 b0 N e s w) {c : UInt8} (hc : c ≠ 123) (ho : s.out = l ++ [c]) (hhk : s.hk = false) (hlen : s.out.length + (6 * key.size + 200) ≤ lim) (hbN : b < N) (hc40 : w0.cell? ⟨b, o + 4, none⟩ = some (.slice ao 0 cc)) :
    Calls Tryz.prog 187 #[.pointer (some ⟨e, 0, none⟩), .string key, .iface 44 (.agg #[.pointer (some ⟨b, o, none⟩), .int .i64 way])] w fun ev w' => ev = .returned (.tuple #[]) ∧ EncF w0 b0 N e (s.add ([44] ++ [34] ++ esc key.data.toList ++ [34, 58] ++ [110, 117, 108, 108])) w' := by
  have hE0H := Lib.hid h
  have hl := Lib.hid hlen
  have hb5 : (6 * key.size + 200) ≤ 1099511627776 := by have : s.out.length + (6 * key.size + 200) ≤ 1099511627776 := hlen; omega
  have hesc := Lib.hid (esc_len key.data.toList)
  have hsz_key : key.data.toList.length = key.size := rfl
  obtain ⟨bbK, hEK, hFK⟩ := h
  obtain ⟨vK, _, _, _, _, _, c4K, _, hfzK, hesK, _, _⟩ := hEK.cells
  rw [hhk] at c4K
  clear hEK hFK hfzK hlen
  have hcn : (((c.toNat : Nat) : Int) != 123) = true := by
    rw [bne_iff_ne]
    intro hx
    apply hc
    apply UInt8.toNat_inj.1
    have h9 : (123 : UInt8).toNat = 123 := rfl
    rw [h9]
    omega
  have hc4 := Lib.hid hc40
  clear hc40
  go_enter Tryz.func187, Tryz.ntmps187
  go_wp2_with (first
    | (go_at_call 30; refine (grow_at _ (5 + key.size) (by omega) hE0H.out (by unfold lim; omega) (Nat.le_trans (by have := hesc.out; first | omega | (simp; done) | (simp; omega)) hl.out)).mono ?_; rintro ev w1 ⟨rfl, hE1⟩; have hE1H := Lib.hid hE1; clear hE1 hE0H)
    | (go_at_call 195; refine (getPreviousRune_any hE1H.out (by first | exact ho | simpa only [St.add_nil] using ho) (Nat.le_trans (by have := hesc.out; first | omega | (simp; done) | (simp; omega)) hl.out)).mono ?_; rintro ev wp ⟨rfl, rfl⟩)
    | (go_at_call 31; refine (writeByte_any 44 hE1H.out (Nat.le_trans (by have := hesc.out; first | omega | (simp; done) | (simp; omega)) hl.out)).mono ?_; rintro ev w2 ⟨rfl, hE2⟩; have hE2H := Lib.hid hE2; clear hE2 hE1H)
    | (go_at_call 31; refine (writeByte_any 34 hE2H.out (Nat.le_trans (by have := hesc.out; first | omega | (simp; done) | (simp; omega)) hl.out)).mono ?_; rintro ev w3 ⟨rfl, hE3⟩; have hE3H := Lib.hid hE3; clear hE3 hE2H)
    | (go_at_call 69; refine (writeStringEscape_any key hE3H.out (Nat.le_trans (by have := hesc.out; first | omega | (simp; done) | (simp; omega)) hl.out)).mono ?_; rintro ev w4 ⟨rfl, hE4⟩; have hE4H := Lib.hid hE4; clear hE4 hE3H)
    | (go_at_call 70; refine (writeString_at ⟨#[34, 58]⟩ 2 rfl hE4H.out (by decide) (Nat.le_trans (by have := hesc.out; first | omega | (simp; done) | (simp; omega)) hl.out)).mono ?_; rintro ev w5 ⟨rfl, hE5⟩; have hE5H := Lib.hid hE5; clear hE5 hE4H)
    | (go_at_call 144; refine (IsNil_any way ((hE5H.out.cell_low hB hbN _).trans hc4.out)).mono ?_; rintro ev wq6 ⟨rfl, x6, rfl⟩; have hE6H := Lib.hid (hE5H.out.alloc x6); clear hE5H)
    | (go_at_call 70; refine (writeString_at ⟨#[110, 117, 108, 108]⟩ 4 rfl hE6H.out (by decide) (Nat.le_trans (by have := hesc.out; first | omega | (simp; done) | (simp; omega)) hl.out)).mono ?_; rintro ev w7 ⟨rfl, hE7⟩; have hE7H := Lib.hid hE7; clear hE7 hE6H)
    )
  first | go_end0 | refine bodyPost_ret (results_none rfl _ _ _) rfl ?_
  refine ⟨rfl, ?_⟩
  have hz := hE7H.out
  exact hz.cast (by simp [St.add])

set_option maxHeartbeats 3200000 in
set_option maxRecDepth 100000 in
theorem ObjectKeyNull_a {w0 w : World} {b0 : Option Nat} {N e : Nat} {s : St} {l : List UInt8} {key : ByteArray} {b o n cc : Nat} {ao : Option Addr} {way : Int} {T : List UInt8} {K : Nat} (hB : Base w0 b0 N) (h : EncF w0 b0 N e s w) (ho : s.out = l ++ [123]) (hhk : s.hk = false) (hlen : s.out.length + (6 * key.size + K + 300) ≤ lim) (hks : s.ks = .slice none 0 0) (hbN : b < N) (hn : (n == 0) = false) (hc40 : w0.cell? ⟨b, o + 4, none⟩ = some (.slice ao n cc)) (hmar0 : Writes 146 (.agg #[.pointer (some ⟨b, o, none⟩), .int .i64 way]) w0 b0 N e 123 T K) :
    Calls Tryz.prog 187 #[.pointer (some ⟨e, 0, none⟩), .string key, .iface 44 (.agg #[.pointer (some ⟨b, o, none⟩), .int .i64 way])] w fun ev w' => ev = .returned (.tuple #[]) ∧ EncF w0 b0 N e (s.add ([34] ++ esc key.data.toList ++ [34, 58] ++ [123] ++ T ++ [125])) w' := by
  have hE0H := Lib.hid h
  have hl := Lib.hid hlen
  have hb5 : (6 * key.size + K + 300) ≤ 1099511627776 := by have : s.out.length + (6 * key.size + K + 300) ≤ 1099511627776 := hlen; omega
  have hesc := Lib.hid (esc_len key.data.toList)
  have hsz_key : key.data.toList.length = key.size := rfl
  obtain ⟨bbK, hEK, hFK⟩ := h
  obtain ⟨vK, _, _, _, _, _, c4K, _, hfzK, hesK, _, _⟩ := hEK.cells
  rw [hhk] at c4K
  clear hEK hFK hfzK hlen
  have hTK := hmar0.1
  have hc4 := Lib.hid hc40
  clear hc40
  have hmar := Lib.hid hmar0
  clear hmar0
  go_enter Tryz.func187, Tryz.ntmps187
  go_wp2_with (first
    | (go_at_call 30; refine (grow_at _ (5 + key.size) (by omega) hE0H.out (by unfold lim; omega) (Nat.le_trans (by have := hesc.out; first | omega | (simp; done) | (simp; omega)) hl.out)).mono ?_; rintro ev w1 ⟨rfl, hE1⟩; have hE1H := Lib.hid hE1; clear hE1 hE0H)
    | (go_at_call 195; refine (getPreviousRune_any hE1H.out (by first | exact ho | simpa only [St.add_nil] using ho) (Nat.le_trans (by have := hesc.out; first | omega | (simp; done) | (simp; omega)) hl.out)).mono ?_; rintro ev wp ⟨rfl, rfl⟩)
    | (go_at_call 31; refine (writeByte_any 34 hE1H.out (Nat.le_trans (by have := hesc.out; first | omega | (simp; done) | (simp; omega)) hl.out)).mono ?_; rintro ev w2 ⟨rfl, hE2⟩; have hE2H := Lib.hid hE2; clear hE2 hE1H)
    | (go_at_call 69; refine (writeStringEscape_any key hE2H.out (Nat.le_trans (by have := hesc.out; first | omega | (simp; done) | (simp; omega)) hl.out)).mono ?_; rintro ev w3 ⟨rfl, hE3⟩; have hE3H := Lib.hid hE3; clear hE3 hE2H)
    | (go_at_call 70; refine (writeString_at ⟨#[34, 58]⟩ 2 rfl hE3H.out (by decide) (Nat.le_trans (by have := hesc.out; first | omega | (simp; done) | (simp; omega)) hl.out)).mono ?_; rintro ev w4 ⟨rfl, hE4⟩; have hE4H := Lib.hid hE4; clear hE4 hE3H)
    | (go_at_call 144; refine (IsNil_any way ((hE4H.out.cell_low hB hbN _).trans hc4.out)).mono ?_; rintro ev wq5 ⟨rfl, x5, rfl⟩; have hE5H := Lib.hid (hE4H.out.alloc x5); clear hE4H)
    | (go_at_call 31; refine (writeByte_any 123 hE5H.out (Nat.le_trans (by have := hesc.out; first | omega | (simp; done) | (simp; omega)) hl.out)).mono ?_; rintro ev w6 ⟨rfl, hE6⟩; have hE6H := Lib.hid hE6; clear hE6 hE5H; obtain ⟨y4, y5, yf4, yf5, ys4, ys5⟩ := hE6H.out.keys hhk hks)
    | (go_at_call 146; refine (hmar.out.2 _ _ hE6H.out ⟨_, rfl⟩ hhk hks (Nat.le_trans (by have := hesc.out; first | omega | (simp; done) | (simp; omega)) hl.out)).mono ?_; rintro ev w7 ⟨rfl, hE7⟩; have hE7H := Lib.hid hE7; clear hE7 hE6H; obtain ⟨z4, z5, zf4, zf5, zs4, zs5⟩ := hE7H.out.keys hhk hks)
    | (go_at_call 31; refine (writeByte_any 125 hE7H.out (Nat.le_trans (by have := hesc.out; first | omega | (simp; done) | (simp; omega)) hl.out)).mono ?_; rintro ev w8 ⟨rfl, hE8⟩; have hE8H := Lib.hid hE8; clear hE8 hE7H)
    )
  first | go_end0 | refine bodyPost_ret (results_none rfl _ _ _) rfl ?_
  refine ⟨rfl, ?_⟩
  have hz := hE8H.out
  exact hz.cast (by simp [St.add])

set_option maxHeartbeats 3200000 in
set_option maxRecDepth 100000 in
theorem ObjectKeyNull_b {w0 w : World} {b0 : Option Nat} {N e : Nat} {s : St} {l : List UInt8} {key : ByteArray} {b o n cc : Nat} {ao : Option Addr} {way : Int} {T : List UInt8} {K : Nat} (hB : Base w0 b0 N) (h : EncF w0 b0 N e s w) {c : UInt8} (hc : c ≠ 123) (ho : s.out = l ++ [c]) (hhk : s.hk = false) (hlen : s.out.length + (6 * key.size + K + 300) ≤ lim) (hks : s.ks = .slice none 0 0) (hbN : b < N) (hn : (n == 0) = false) (hc40 : w0.cell? ⟨b, o + 4, none⟩ = some (.slice ao n cc)) (hmar0 : Writes 146 (.agg #[.pointer (some ⟨b, o, none⟩), .int .i64 way]) w0 b0 N e 123 T K) :
    Calls Tryz.prog 187 #[.pointer (some ⟨e, 0, none⟩), .string key, .iface 44 (.agg #[.pointer (some ⟨b, o, none⟩), .int .i64 way])] w fun ev w' => ev = .returned (.tuple #[]) ∧ EncF w0 b0 N e (s.add ([44] ++ [34] ++ esc key.data.toList ++ [34, 58] ++ [123] ++ T ++ [125])) w' := by
  have hE0H := Lib.hid h
  have hl := Lib.hid hlen
  have hb5 : (6 * key.size + K + 300) ≤ 1099511627776 := by have : s.out.length + (6 * key.size + K + 300) ≤ 1099511627776 := hlen; omega
  have hesc := Lib.hid (esc_len key.data.toList)
  have hsz_key : key.data.toList.length = key.size := rfl
  obtain ⟨bbK, hEK, hFK⟩ := h
  obtain ⟨vK, _, _, _, _, _, c4K, _, hfzK, hesK, _, _⟩ := hEK.cells
  rw [hhk] at c4K
  clear hEK hFK hfzK hlen
  have hcn : (((c.toNat : Nat) : Int) != 123) = true := by
    rw [bne_iff_ne]
    intro hx
    apply hc
    apply UInt8.toNat_inj.1
    have h9 : (123 : UInt8).toNat = 123 := rfl
    rw [h9]
    omega
  have hTK := hmar0.1
  have hc4 := Lib.hid hc40
  clear hc40
  have hmar := Lib.hid hmar0
  clear hmar0
  go_enter Tryz.func187, Tryz.ntmps187
  go_wp2_with (first
    | (go_at_call 30; refine (grow_at _ (5 + key.size) (by omega) hE0H.out (by unfold lim; omega) (Nat.le_trans (by have := hesc.out; first | omega | (simp; done) | (simp; omega)) hl.out)).mono ?_; rintro ev w1 ⟨rfl, hE1⟩; have hE1H := Lib.hid hE1; clear hE1 hE0H)
    | (go_at_call 195; refine (getPreviousRune_any hE1H.out (by first | exact ho | simpa only [St.add_nil] using ho) (Nat.le_trans (by have := hesc.out; first | omega | (simp; done) | (simp; omega)) hl.out)).mono ?_; rintro ev wp ⟨rfl, rfl⟩)
    | (go_at_call 31; refine (writeByte_any 44 hE1H.out (Nat.le_trans (by have := hesc.out; first | omega | (simp; done) | (simp; omega)) hl.out)).mono ?_; rintro ev w2 ⟨rfl, hE2⟩; have hE2H := Lib.hid hE2; clear hE2 hE1H)
    | (go_at_call 31; refine (writeByte_any 34 hE2H.out (Nat.le_trans (by have := hesc.out; first | omega | (simp; done) | (simp; omega)) hl.out)).mono ?_; rintro ev w3 ⟨rfl, hE3⟩; have hE3H := Lib.hid hE3; clear hE3 hE2H)
    | (go_at_call 69; refine (writeStringEscape_any key hE3H.out (Nat.le_trans (by have := hesc.out; first | omega | (simp; done) | (simp; omega)) hl.out)).mono ?_; rintro ev w4 ⟨rfl, hE4⟩; have hE4H := Lib.hid hE4; clear hE4 hE3H)
    | (go_at_call 70; refine (writeString_at ⟨#[34, 58]⟩ 2 rfl hE4H.out (by decide) (Nat.le_trans (by have := hesc.out; first | omega | (simp; done) | (simp; omega)) hl.out)).mono ?_; rintro ev w5 ⟨rfl, hE5⟩; have hE5H := Lib.hid hE5; clear hE5 hE4H)
    | (go_at_call 144; refine (IsNil_any way ((hE5H.out.cell_low hB hbN _).trans hc4.out)).mono ?_; rintro ev wq6 ⟨rfl, x6, rfl⟩; have hE6H := Lib.hid (hE5H.out.alloc x6); clear hE5H)
    | (go_at_call 31; refine (writeByte_any 123 hE6H.out (Nat.le_trans (by have := hesc.out; first | omega | (simp; done) | (simp; omega)) hl.out)).mono ?_; rintro ev w7 ⟨rfl, hE7⟩; have hE7H := Lib.hid hE7; clear hE7 hE6H; obtain ⟨y4, y5, yf4, yf5, ys4, ys5⟩ := hE7H.out.keys hhk hks)
    | (go_at_call 146; refine (hmar.out.2 _ _ hE7H.out ⟨_, rfl⟩ hhk hks (Nat.le_trans (by have := hesc.out; first | omega | (simp; done) | (simp; omega)) hl.out)).mono ?_; rintro ev w8 ⟨rfl, hE8⟩; have hE8H := Lib.hid hE8; clear hE8 hE7H; obtain ⟨z4, z5, zf4, zf5, zs4, zs5⟩ := hE8H.out.keys hhk hks)
    | (go_at_call 31; refine (writeByte_any 125 hE8H.out (Nat.le_trans (by have := hesc.out; first | omega | (simp; done) | (simp; omega)) hl.out)).mono ?_; rintro ev w9 ⟨rfl, hE9⟩; have hE9H := Lib.hid hE9; clear hE9 hE8H)
    )
  first | go_end0 | refine bodyPost_ret (results_none rfl _ _ _) rfl ?_
  refine ⟨rfl, ?_⟩
  have hz := hE9H.out
  exact hz.cast (by simp [St.add])
end Go.Proofs.YtokmkkkanphihaaGreatRDoor
