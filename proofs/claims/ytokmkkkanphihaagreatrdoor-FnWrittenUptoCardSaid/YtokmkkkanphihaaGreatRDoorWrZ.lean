/- impl.Written of a value, all of it. -/
import Derived.Test.YtokmkkkanphihaaGreatRDoorWr
import Derived.Test.YtokmkkkanphihaaGreatRDoorYSink
namespace Go.Proofs.YtokmkkkanphihaaGreatRDoor
open Go.RowKit Go.Sort

theorem out_cast {N M : Nat} {w : World} {T : List UInt8} {f : FuncId} {args : Array Value} (h : Calls Tryz.prog f args w (Out N w T)) (hNM : N = M) : Calls Tryz.prog f args w (Out M w T) := hNM ▸ h

theorem Written_zero {v : Val} {w : World} {ls kv : Value} (hT : Tabs w.heap.size w) (hS : Subs w.heap.size w v ls kv) (hG : Good v) (hk : Kind2 v) (hroom : cost v + 2000 ≤ lim) :
    Calls Tryz.prog 10 #[.agg (aggV v ls kv), .int .i64 0] w (WrOut w (valT (redV 0 v))) := by
  obtain ⟨k, i, r, t, l, ks, rfl, hk2⟩ := hk
  have hPb := PVal_box hS
  have hTb := hT.up (.cells (aggV (.mk k i r t l ks) ls kv) 26)
  have hs : (w.alloc (.cells (aggV (.mk k i r t l ks) ls kv) 26)).heap.size = w.heap.size + 1 := by simp
  simp only [Good] at hG
  obtain ⟨⟨hk1, hk7⟩, ⟨hi0, hi1⟩, hr, hkl, hl6, hk7', hGL⟩ := hG
  simp only [cost] at hroom
  have hc1 : (2000 : Nat) ≤ lim := by omega
  have hc2 : 6 * t.size + 200 ≤ lim := by omega
  have hq6 : costL l + 1000 ≤ lim := by omega
  have hq7 : costL l + costK ks + 700 ≤ lim := by omega
  have hq6' : costL l ≤ lim := by omega
  have z0 : ∀ q, q ≤ lim → (st0 .nilIface).out.length + q ≤ lim := fun q h => by rw [show (st0 .nilIface).out.length = 0 from rfl, Nat.zero_add]; exact h
  obtain ⟨⟨ao, c, hls, hl⟩, ⟨ako, ck, hkv, _⟩⟩ := hS
  have hcases : k = 2 ∨ k = 3 ∨ k = 4 ∨ k = 5 ∨ k = 6 ∨ k = 7 := by omega
  simp only [redV, aggV] at *
  rcases hcases with rfl | rfl | rfl | rfl | rfl | rfl
  · have ev : valT (.mk 2 i r t (redL 0 l) (if (2 : Int) = 7 then redK 0 l ks else ks)) = boolTxt (i == 1) := by rw [valT]; rfl
    rw [ev]
    refine Written_2 hls hkv (out_cast (Marshal_Bool _ fun wr hE => ?_) hs)
    rcases hb : (i == 1) with _ | _
    · rw [hb] at hE; exact encodeBoolF (encM_base hTb) hE (z0 _ (by omega))
    · rw [hb] at hE; exact encodeBoolT (encM_base hTb) hE (z0 _ (by omega))
  · have ev : valT (.mk 3 i r t (redL 0 l) (if (3 : Int) = 7 then redK 0 l ks else ks)) = Lib.itoa i := by rw [valT]; rfl
    rw [ev]
    exact Written_3 hls hkv (out_cast (Marshal_Int64 _ fun wr hE => encodeInt64_any (encM_base hTb) hE (z0 _ (by omega)) hi0 hi1) hs)
  · have ev : valT (.mk 4 i r t (redL 0 l) (if (4 : Int) = 7 then redK 0 l ks else ks)) = realT r := by rw [valT]; rfl
    rw [ev]
    exact Written_4 hls hkv (out_cast (Marshal_Float _ fun wr hE => encodeFloat_any (encM_base hTb) hE (z0 _ (by omega)) (realT_spec (hr rfl))) hs)
  · have ev : valT (.mk 5 i r t (redL 0 l) (if (5 : Int) = 7 then redK 0 l ks else ks)) = [34] ++ esc t.data.toList ++ [34] := by rw [valT]; rfl
    rw [ev]
    exact Written_5 hls hkv (out_cast (Marshal_String _ fun wr hE => encodeString_any (encM_base hTb) hE (z0 _ hc2)) hs)
  · have ev : valT (.mk 6 i r t (redL 0 l) (if (6 : Int) = 7 then redK 0 l ks else ks)) = [91] ++ listT (redL 0 l) true ++ [93] := by rw [valT]; rfl
    rw [ev]
    refine Written_6 hls hkv (out_cast (MarshalJSONArray_any (K := costL l) hTb hq6 ?_) hs)
    have hPE := (hPb.step (w' := encW (w.alloc (.cells #[.int .i64 6, .int .i64 i, .float .f64 r, .string t, ls, kv] 26))) (fun k hk => encW_low _ k (by rw [hs]; exact hk)))
    rw [← hs] at hPE
    exact marA_ok (encW_base hTb) hPE hGL hq6'
  · have ev : valT (.mk 7 i r t (redL 0 l) (if (7 : Int) = 7 then redK 0 l ks else ks)) = [123] ++ membT (redL 0 l) (redK 0 l ks) true ++ [125] := by rw [valT]; rfl
    rw [ev]
    refine Written_7 hls hkv (out_cast (MarshalJSONObject_any hTb fun wr hE => ?_) hs)
    have hPE := (hPb.step (w' := encW (w.alloc (.cells #[.int .i64 7, .int .i64 i, .float .f64 r, .string t, ls, kv] 26))) (fun k hk => encW_low _ k (by rw [hs]; exact hk)))
    rw [← hs] at hPE
    have hPE' := hPE
    simp only [PVal] at hPE'
    obtain ⟨hbN, _, _, _, _, ⟨ao2, cc, c4, _⟩, _⟩ := hPE'
    rcases List.eq_nil_or_concat l with hl0 | ⟨a, z, hlz⟩
    · subst hl0
      have hT2 : [123] ++ membT (redL 0 []) (redK 0 [] ks) true ++ [125] = ([123] ++ [125] : List UInt8) := by simp [redL, membT]
      rw [hT2]
      exact encodeObject_nil (encW_base hTb) hE (z0 _ (by omega)) rfl rfl hbN c4
    · have hn : (l.length == 0) = false := by rw [hlz]; simp
      have hW := marO_ok (e := (w.alloc (.cells #[.int .i64 7, .int .i64 i, .float .f64 r, .string t, ls, kv] 26)).heap.size) (encW_base hTb) hPE hGL hq6' (hkl rfl)
      exact encodeObject_ne (K := costL l + costK ks) (encW_base hTb) hE (z0 _ hq7) rfl rfl hbN hn c4 hW
end Go.Proofs.YtokmkkkanphihaaGreatRDoor
