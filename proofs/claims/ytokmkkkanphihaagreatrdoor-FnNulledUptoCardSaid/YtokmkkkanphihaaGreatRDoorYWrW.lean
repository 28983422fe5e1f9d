/- impl.Written of a value, all of it. -/
import Derived.Test.YtokmkkkanphihaaGreatRDoorWr
import Derived.Test.YtokmkkkanphihaaGreatRDoorYSink
import Derived.Test.YtokmkkkanphihaaGreatRDoorEncR
import Derived.Test.YtokmkkkanphihaaGreatRDoorPutD
namespace Go.Proofs.YtokmkkkanphihaaGreatRDoor
open Go.RowKit Go.Sort

theorem out_cast {N M : Nat} {w : World} {T : List UInt8} {f : FuncId} {args : Array Value} (h : Calls Tryz.prog f args w (Out N w T)) (hNM : N = M) : Calls Tryz.prog f args w (Out M w T) := hNM ▸ h

end Go.Proofs.YtokmkkkanphihaaGreatRDoor

/- impl.Written of a list or an object, without what is empty or with null for it (written by genWrW.py). -/
namespace Go.Proofs.YtokmkkkanphihaaGreatRDoor
open Go.RowKit Go.Sort


set_option maxRecDepth 100000 in
theorem Written_way2 {k i : Int} {r : Nat} {t : ByteArray} {l : List Val} {ks : List ByteArray} {w : World} {ls kv : Value} (hT : Tabs w.heap.size w) (hS : Subs w.heap.size w (.mk k i r t l ks) ls kv) (hG : Good (.mk k i r t l ks)) (hCl : Clean 2 (.mk k i r t l ks)) (hk : k = 6 ∨ k = 7) (hroom : cost (.mk k i r t l ks) + 2000 ≤ lim) :
    Calls Tryz.prog 10 #[.agg (aggV (.mk k i r t l ks) ls kv), .int .i64 2] w (WrOut w (valT (redV 2 (.mk k i r t l ks)))) := by
  have hPb := PVal_box hS
  have hTb := hT.up (.cells (aggV (.mk k i r t l ks) ls kv) 26)
  have hs : (w.alloc (.cells (aggV (.mk k i r t l ks) ls kv) 26)).heap.size = w.heap.size + 1 := by simp
  simp only [Good] at hG
  simp only [Clean] at hCl
  obtain ⟨⟨hk1, hk7⟩, ⟨hi0, hi1⟩, hr, hkl, hl6, hk7', hGL⟩ := hG
  obtain ⟨_, hnb, hCL⟩ := hCl
  simp only [cost] at hroom
  have hq6 : costL l + 1000 ≤ lim := by omega
  have hq7 : costL l + costK ks + 700 ≤ lim := by omega
  have hq6' : costL l ≤ lim := by omega
  have hq2 : (2000 : Nat) ≤ lim := by omega
  have z0 : ∀ q, q ≤ lim → (st0 .nilIface).out.length + q ≤ lim := fun q h => by rw [show (st0 .nilIface).out.length = 0 from rfl, Nat.zero_add]; exact h
  obtain ⟨⟨ao, c, hls, hl⟩, ⟨ako, ck, hkv, _⟩⟩ := hS
  simp only [aggV] at *
  rcases hk with rfl | rfl
  · have ev : valT (redV 2 (.mk 6 i r t l ks)) = [91] ++ listT (redL 2 l) true ++ [93] := by rw [redV, valT]; rfl
    rw [ev]
    refine Written_6 hls hkv (out_cast (MarshalJSONArray_any (K := costL l) hTb hq6 ?_) hs)
    have hPE := (hPb.step (w' := encW (w.alloc (.cells #[.int .i64 6, .int .i64 i, .float .f64 r, .string t, ls, kv] 26))) (fun k hk => encW_low _ k (by rw [hs]; exact hk)))
    rw [← hs] at hPE
    exact marA_ok2 (encW_base hTb) hPE hGL hCL hq6'
  · have ev : valT (redV 2 (.mk 7 i r t l ks)) = [123] ++ membT (redL 2 l) (redK 2 l ks) true ++ [125] := by rw [redV, valT]; rfl
    rw [ev]
    refine Written_7 hls hkv (out_cast (MarshalJSONObject_any hTb fun wr hE => ?_) hs)
    have hPE := (hPb.step (w' := encW (w.alloc (.cells #[.int .i64 7, .int .i64 i, .float .f64 r, .string t, ls, kv] 26))) (fun k hk => encW_low _ k (by rw [hs]; exact hk)))
    rw [← hs] at hPE
    have hPE' := hPE
    simp only [PVal] at hPE'
    obtain ⟨hbN, _, _, _, _, ⟨ao2, cc, c4, _⟩, _⟩ := hPE'
    rcases List.eq_nil_or_concat l with hl0 | ⟨a, z, hlz⟩
    · subst hl0
      have hT2 : [123] ++ membT (redL 2 []) (redK 2 [] ks) true ++ [125] = ([123] ++ [125] : List UInt8) := by simp [redL, membT]
      rw [hT2]
      exact encodeObject_nil (encW_base hTb) hE (z0 _ (by omega)) rfl rfl hbN c4
    · have hn : (l.length == 0) = false := by rw [hlz]; simp
      have hW := marO_ok2 (e := (w.alloc (.cells #[.int .i64 7, .int .i64 i, .float .f64 r, .string t, ls, kv] 26)).heap.size) (encW_base hTb) hPE hGL hCL hq6' (hkl rfl) (hnb (by trivial) rfl)
      exact encodeObject_ne (K := costL l + costK ks) (encW_base hTb) hE (z0 _ hq7) rfl rfl hbN hn c4 hW

end Go.Proofs.YtokmkkkanphihaaGreatRDoor
