/- impl.encoded and impl.WrittenAll: what one encoder writes of values. -/
import Derived.Test.YtokmkkkanphihaaGreatRDoorEnAll
import Derived.Test.YtokmkkkanphihaaGreatRDoorWr
namespace Go.Proofs.YtokmkkkanphihaaGreatRDoor
open Go.RowKit Go.Sort

theorem valT_pos {v : Val} (h : Good v) : 0 < (valT v).length := by
  obtain ⟨x, d, hx, _⟩ := okEnd_val v h
  rw [hx]; simp

theorem encoded_any {w0 w : World} {N e S b o : Nat} {sent : List UInt8} {v : Val} (h : SE w0 N e S (st0 (sinkV S)) sent w) (hP : PVal N w v b o) (hG : Good v) (hk : ∃ k i r t l ks, v = .mk k i r t l ks ∧ 2 ≤ k) (hroom : sent.length + cost v ≤ lim) :
    Calls Tryz.prog 26 #[.pointer (some ⟨e, 0, none⟩), .pointer (some ⟨b, o, none⟩)] w fun ev w' => ev = .returned .nilIface ∧ SE w0 N e S (st0 (sinkV S)) (sent ++ valT (redV 0 v)) w' := by
  obtain ⟨k, i, r, t, l, ks, rfl, hk2⟩ := hk
  have hlenv := valT_len 0 _ hG
  have hTp := valT_pos (Good_red 0 _ hG)
  simp only [Good] at hG
  obtain ⟨⟨hk1, hk7⟩, ⟨hi0, hi1⟩, hr, hkl, hl6, hk7', hGL⟩ := hG
  have hP' := hP
  simp only [PVal] at hP'
  obtain ⟨hbN, c0, c1, c2, c3, ⟨ao, cc, c4, hl⟩, _⟩ := hP'
  have hout : ((st0 (sinkV S)).out.length : Nat) = 0 := rfl
  have hcost : cost (.mk k i r t l ks) = 2000 + 6 * t.size + costL l + costK ks := by simp only [cost]
  have hroom' : sent.length + (valT (redV 0 (.mk k i r t l ks))).length ≤ lim := by omega
  have hcl : (2000 + 6 * t.size + costL l + costK ks) ≤ lim := by omega
  have z0 : ∀ q, q ≤ lim → (st0 (sinkV S)).out.length + q ≤ lim := fun q h => by rw [hout, Nat.zero_add]; exact h
  have hq6 : costL l + 300 ≤ lim := by omega
  have hq7 : costL l + costK ks + 700 ≤ lim := by omega
  have hq6' : costL l ≤ lim := by omega
  have hcases : k = 2 ∨ k = 3 ∨ k = 4 ∨ k = 5 ∨ k = 6 ∨ k = 7 := by omega
  simp only [redV] at *
  rcases hcases with rfl | rfl | rfl | rfl | rfl | rfl
  · have ev : valT (.mk 2 i r t (redL 0 l) (if (2 : Int) = 7 then redK 0 l ks else ks)) = boolTxt (i == 1) := by rw [valT]; rfl
    rw [ev] at hTp hroom' ⊢
    refine encoded_2 c0 c1 (Encode_Bool h hTp hroom' fun bb hE hB => ?_)
    rcases hb : (i == 1) with _ | _
    · exact encodeBoolF hB hE (by have h0 := hout; omega)
    · exact encodeBoolT hB hE (by have h0 := hout; omega)
  · have ev : valT (.mk 3 i r t (redL 0 l) (if (3 : Int) = 7 then redK 0 l ks else ks)) = Lib.itoa i := by rw [valT]; rfl
    rw [ev] at hTp hroom' ⊢
    exact encoded_3 c0 c1 (Encode_Int64 h hTp hroom' fun bb hE hB => encodeInt64_any hB hE (by have h0 := hout; omega) hi0 hi1)
  · have ev : valT (.mk 4 i r t (redL 0 l) (if (4 : Int) = 7 then redK 0 l ks else ks)) = realT r := by rw [valT]; rfl
    rw [ev] at hTp hroom' ⊢
    exact encoded_4 c0 c2 (Encode_Float h hTp hroom' fun bb hE hB => encodeFloat_any hB hE (by have h0 := hout; omega) (realT_spec (hr rfl)))
  · have ev : valT (.mk 5 i r t (redL 0 l) (if (5 : Int) = 7 then redK 0 l ks else ks)) = [34] ++ esc t.data.toList ++ [34] := by rw [valT]; rfl
    rw [ev] at hTp hroom' ⊢
    exact encoded_5 c0 c3 (Encode_String h hTp hroom' fun bb hE hB => encodeString_any hB hE (by have h0 := hout; omega))
  · have ev : valT (.mk 6 i r t (redL 0 l) (if (6 : Int) = 7 then redK 0 l ks else ks)) = [91] ++ listT (redL 0 l) true ++ [93] := by rw [valT]; rfl
    rw [ev] at hTp hroom' ⊢
    refine encoded_6 c0 (Encode_Array h hTp hroom' fun bb hE hB => ?_)
    have hW := marA_ok (e := e) hB hP hGL hq6'
    exact encodeArray_any (K := costL l) hB hE (z0 _ hq6) rfl rfl hW
  · have ev : valT (.mk 7 i r t (redL 0 l) (if (7 : Int) = 7 then redK 0 l ks else ks)) = [123] ++ membT (redL 0 l) (redK 0 l ks) true ++ [125] := by rw [valT]; rfl
    rw [ev] at hTp hroom' ⊢
    refine encoded_7 c0 (Encode_Object h hTp hroom' fun bb hE hB => ?_)
    rcases List.eq_nil_or_concat l with hl0 | ⟨a, z, hlz⟩
    · subst hl0
      have hT : [123] ++ membT (redL 0 []) (redK 0 [] ks) true ++ [125] = ([123] ++ [125] : List UInt8) := by simp [redL, membT]
      rw [hT]
      exact encodeObject_nil hB hE (by have h0 := hout; omega) rfl rfl hbN c4
    · have hn : (l.length == 0) = false := by rw [hlz]; simp
      have hW := marO_ok (e := e) hB hP hGL hq6' (hkl rfl)
      exact encodeObject_ne (K := costL l + costK ks) hB hE (z0 _ hq7) rfl rfl hbN hn c4 hW

/-- The texts of values, one behind the other. -/
noncomputable def catT : List Val → List UInt8
  | [] => []
  | v :: vs => valT (redV 0 v) ++ catT vs

theorem catT_snoc : ∀ (a : List Val) (v : Val), catT (a ++ [v]) = catT a ++ valT (redV 0 v)
  | [], v => by simp [catT]
  | x :: a, v => by rw [List.cons_append, catT, catT, catT_snoc a v, List.append_assoc]

theorem catT_len : ∀ l : List Val, GoodL l → (catT l).length ≤ costL l
  | [], _ => by simp [catT]
  | v :: vs, h => by
    simp only [GoodL] at h
    have h1 := valT_len 0 v h.1
    have h2 := catT_len vs h.2
    simp only [catT, costL, List.length_append]; omega

/-- A kind of at least 2. -/
def Kind2 (v : Val) : Prop := ∃ k i r t l ks, v = .mk k i r t l ks ∧ 2 ≤ k

/-- The world in which the sink and the encoder are new. -/
def seW (w : World) : World := (w.alloc (.cells #[.slice none 0 0] 56)).alloc (.cells #[.slice none 0 0, .int .u8 0, .iface 54 (.pointer (some ⟨w.heap.size, 0, none⟩)), .nilIface, .bool false, .slice none 0 0] 70)

theorem seW_size (w : World) : (seW w).heap.size = w.heap.size + 2 := by unfold seW; simp
theorem seW_low (w : World) : ∀ k, k < w.heap.size → (seW w).heap[k]? = w.heap[k]? := fun k hk => by
  unfold seW
  rw [heap_alloc_old _ _ _ (by simp; omega), heap_alloc_old _ _ _ hk]

theorem seW_se {w : World} (hT : Tabs w.heap.size w) : SE w w.heap.size (w.heap.size + 1) w.heap.size (st0 (sinkV w.heap.size)) [] (seW w) := by
  have hs : (w.alloc (.cells #[.slice none 0 0] 56)).heap.size = w.heap.size + 1 := by simp
  refine ⟨⟨none, .slice none 0 0, ⟨.slice none 0 0, ?_, ⟨⟨rfl, .inl ⟨rfl, rfl⟩⟩, rfl⟩, by simp, by omega⟩, ?_, ⟨rfl, .inl ⟨rfl, rfl⟩⟩, by simp [Value.ownBlock], by simp [Value.ownBlock], by simp, fun g hg => by simp [Value.ownBlock] at hg⟩, by omega, Nat.le_refl _, hT.step (seW_low w) (by rw [seW_size]; omega), ⟨rfl, rfl, rfl, by rw [seW_size]; omega, fun k hk _ => seW_low w k hk⟩, Nat.le_refl _⟩
  · unfold seW
    rw [← hs]
    exact heap_alloc_new _ _
  · unfold seW
    rw [heap_alloc_old _ _ _ (by simp)]
    exact heap_alloc_new w _

set_option maxHeartbeats 3200000 in
set_option maxRecDepth 100000 in
theorem WrittenAll_any {w : World} {ao : Option Addr} {c : Nat} {vs : List Val} (hT : Tabs w.heap.size w) (hl : vs = [] ∨ ∃ b2 o2, ao = some ⟨b2, o2, none⟩ ∧ PList w.heap.size w vs b2 o2) (hG : GoodL vs) (hk : ∀ j (h : j < vs.length), Kind2 vs[j]) (hroom : costL vs ≤ lim) :
    Calls Tryz.prog 13 #[.slice ao vs.length c] w fun ev w' => ev = .returned (.tuple #[.string ⟨(catT vs).toArray⟩, .bool true]) ∧ Kp (fun _ => False) w w' := by
  have hn : vs.length ≤ 1099511627776 := by have h1 := vszL_len vs; have h2 := vszL_cost vs; unfold lim at hroom; omega
  have hseH := Lib.hid (seW_se hT)
  have hlH := Lib.hid hl
  have hGH := Lib.hid hG
  have hkH := Lib.hid hk
  have hrH := Lib.hid hroom
  clear hT hl hG hk hroom
  go_enter Tryz.func13, Tryz.ntmps13
  go_wp2_with (go_at_call 25; refine (NewEncoder_iface _ _ _).mono ?_; rintro ev w1 ⟨rfl, rfl⟩)
  go_loopw [15] (fun cc wr => ∃ j : Nat, j ≤ vs.length ∧ cc = .int .i64 j ∧ Hid (SE w w.heap.size (w.heap.size + 1) w.heap.size (st0 (sinkV w.heap.size)) (catT (vs.take j)) wr)) (fun cc _ => vs.length - (intOf cc).toNat)
  case atStart => exact ⟨0, Nat.zero_le _, rfl, Lib.hid hseH.out⟩
  case round =>
    obtain ⟨j, hj, rfl, hSE⟩ := hrel
    by_cases hlt : j < vs.length
    · obtain ⟨b2, o2, rfl, hPL⟩ : ∃ b2 o2, ao = some ⟨b2, o2, none⟩ ∧ PList w.heap.size w vs b2 o2 := by
        rcases hlH.out with h | h
        · subst h; simp at hlt
        · exact h
      have hcall : Calls Tryz.prog 26 #[.pointer (some ⟨w.heap.size + 1, 0, none⟩), .pointer (some ⟨b2, o2 + 6 * j, none⟩)] wr fun ev w' => ev = .returned .nilIface ∧ SE w w.heap.size (w.heap.size + 1) w.heap.size (st0 (sinkV w.heap.size)) (catT (vs.take (j + 1))) w' := by
        have hPj := (hPL.at j hlt).step (w' := wr) (fun k hk => hSE.out.kp.block k hk (fun h => h))
        have h1 := catT_len (vs.take j) (hGH.out.take j)
        have h2 : costL (vs.take j) + costL (vs.drop j) = costL vs := by rw [← costL_append, List.take_append_drop]
        have h3 : vs.drop j = vs[j] :: vs.drop (j + 1) := List.drop_eq_getElem_cons hlt
        rw [h3, costL] at h2
        have h4 := hrH.out
        have := encoded_any hSE.out hPj (hGH.out.at j hlt) (hkH.out j hlt) (by omega)
        rw [← catT_snoc] at this
        rw [show vs.take (j + 1) = vs.take j ++ [vs[j]] from List.take_succ_eq_append_getElem hlt]
        exact this
      have hcallH := Lib.hid hcall
      have e6H := Lib.hid (show o2 + j * 6 = o2 + 6 * j by omega)
      clear hcall hPL hSE
      go_wp2_with (go_at_call 26; rw [e6H.out]; refine hcallH.out.mono ?_; rintro ev w2 ⟨rfl, hR⟩; have hRH := Lib.hid hR; clear hR)
      go_roundw
      case rel => exact ⟨j + 1, by omega, by go_num, hRH⟩
      case measure => simp [intOf]; omega
    · have hje : j = vs.length := by omega
      have hall : SE w w.heap.size (w.heap.size + 1) w.heap.size (st0 (sinkV w.heap.size)) (catT vs) wr := by
        have := hSE.out
        rwa [hje, List.take_length] at this
      obtain ⟨bb, v, _, hS, hown, _⟩ := hall.both
      have c0 : wr.cell? ⟨w.heap.size, 0, none⟩ = some v := by simp [World.cell?, hS]
      have hconv := row_string (W := wr) hown rfl
      have hkp := Lib.hid hall.kp
      clear hall hS hown hje hSE
      go_wp2_with fail
      go_ret2
      exact ⟨rfl, hkp.out⟩
end Go.Proofs.YtokmkkkanphihaaGreatRDoor
