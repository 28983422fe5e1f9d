/- The tables that strconv reads, out of what the rows list. -/
import Derived.Test.YtokmkkkanphihaaGreatRDoorRead
import Derived.Lib.LaidTab
namespace Go.Proofs.YtokmkkkanphihaaGreatRDoor
open Go.RowKit Go.Sort Go.ChangeShapes Go.WideShapes

theorem laid_tail {P : Program} {w : World} {n : String} {d : DataW Unit} {r : List (String × DataW Unit)} {ps : List MemPlace} (h : DataW.LaidVars P w ((n, d) :: r) ps) : ∃ q, DataW.LaidVars P w r q := by
  obtain ⟨g, t, cs, fuel, p, q, _, _, _, _, hq, _⟩ := h
  exact ⟨q, hq⟩

theorem laid_head {P : Program} {w : World} {n : String} {d : DataW Unit} {r : List (String × DataW Unit)} {ps : List MemPlace} {g : Nat} {t : TypeId} (hg : P.globalNamed n = some g) (ht : (P.globals[g]?).map (·.type) = some t) (h : DataW.LaidVars P w ((n, d) :: r) ps) :
    ∃ cs fuel p, w.var? P n = some cs ∧ DataW.trod (fun _ => ()) P w 0 (fun _ => true) false fuel t cs.toList = some (d, p) := by
  obtain ⟨g', t', cs, fuel, p, q, hg', ht', hvar, hd, _, _⟩ := h
  obtain rfl := Option.some.inj (hg.symm.trans hg')
  obtain rfl := Option.some.inj (ht.symm.trans ht')
  exact ⟨cs, fuel, p, hvar, hd⟩

theorem gP64 : Tryz.prog.globalNamed "internal/strconv.uint64pow10" = some 1 := by kernel_rfl
theorem gP64t : (Tryz.prog.globals[1]?).map (·.type) = some 162 := by kernel_rfl
theorem gPow : Tryz.prog.globalNamed "internal/strconv.pow10Tab" = some 2 := by kernel_rfl
theorem gPowt : (Tryz.prog.globals[2]?).map (·.type) = some 182 := by kernel_rfl
theorem cP64 : Tryz.prog.cellsOf 162 = 20 := by kernel_rfl
theorem cU64 : Tryz.prog.cellsOf 92 = 1 := by kernel_rfl
theorem cHiLo : Tryz.prog.cellsOf 181 = 2 := by kernel_rfl
theorem tabP64 : (Rows.laid_internal_strconv_uint64pow10 : DataW Unit) = Lib.tabData .u64 Lib.pow10Tab := by kernel_rfl

theorem pow_rows : ∀ p : Fin 26, Go.Pinned.pow10Rows[p.val + 348]? = some (Fl.pm p.val, 0) := by decide +kernel

theorem var_cell {P : Program} {w : World} {n : String} {g : Nat} {cs : Array Value} (hg : P.globalNamed n = some g) (h : w.var? P n = some cs) (i : Nat) : w.cell? ⟨g, i, none⟩ = cs[i]? := by
  unfold World.var? at h
  rw [hg] at h
  simp only [Option.bind_some] at h
  unfold World.cell?
  split at h
  · rename_i c t f hc
    simp only [Option.some.injEq] at h
    subst h
    simp [hc]
  · cases h
def hiLo (x : Nat × Nat) : DataW Unit := .agg [.lit (.int .u64 x.1), .lit (.int .u64 x.2)]
theorem agg_out {xs ys : List (DataW Unit)} (h : DataW.agg xs = DataW.agg ys) : ys = xs := by injection h with h; exact h.symm
theorem pow_at {w : World} {fuel : Nat} {cs : Array Value} {p : List MemPlace} (hvar : w.var? Tryz.prog "internal/strconv.pow10Tab" = some cs)
    (hd : DataW.trod (fun _ => ()) Tryz.prog w 0 (fun _ => true) false fuel 182 cs.toList = some (Go.Pinned.pow10Tab, p)) : ∀ q, q ≤ 25 → PowAt w q := by
  intro q hq
  have hrow := pow_rows ⟨q, by omega⟩
  obtain ⟨xs, m, rfl, hx, _, hxl, he⟩ := DataW.trod_array Tryz.underlying182 hd
  have h2 : xs.map (·.1) = Go.Pinned.pow10Rows.map hiLo := agg_out (congrArg Prod.fst hx)
  have hi : q + 348 < xs.length := by omega
  have h4 := he (q + 348) (by omega)
  rw [cHiLo, List.getElem?_eq_getElem hi] at h4
  have h5 : xs[q + 348].1 = DataW.agg [.lit (.int .u64 (Fl.pm q : Nat)), .lit (.int .u64 0)] := by
    have h6 := congrArg (fun l => l[q + 348]?) h2
    simp only [List.getElem?_map, hrow, List.getElem?_eq_getElem hi, Option.map_some, Option.some.injEq] at h6
    exact h6
  obtain ⟨ys, m2, _, hy, hyl, hyx, hf⟩ := DataW.trod_struct Tryz.underlying181 h4
  have f0 := hf 0 { name := "hi", type := 92, offset := 0, embedded := false, tag := "", pkgPath := "internal/strconv", byteOffset := 0 } rfl
  have f1 := hf 1 { name := "lo", type := 92, offset := 1, embedded := false, tag := "", pkgPath := "internal/strconv", byteOffset := 8 } rfl
  dsimp only at f0 f1
  rw [cU64] at f0 f1
  rw [cHiLo] at hyl
  have hy2 : ys.length = 2 := hyx
  obtain ⟨y0, y1, rfl⟩ : ∃ y0 y1, ys = [y0, y1] := by
    match ys, hy2 with
    | [a, b], _ => exact ⟨a, b, rfl⟩
  have hyd : xs[q + 348].1 = DataW.agg [y0.1, y1.1] := by rw [hy]; rfl
  rw [h5] at hyd
  injection hyd with hyd
  injection hyd with e0 hyd
  injection hyd with e1 _
  have g0 : DataW.trod (fun _ => ()) Tryz.prog w 0 (fun _ => true) false m2 92 (List.take 1 (List.drop 0 (List.take 2 (List.drop ((q + 348) * 2) cs.toList)))) = some y0 := f0
  have g1 : DataW.trod (fun _ => ()) Tryz.prog w 0 (fun _ => true) false m2 92 (List.take 1 (List.drop 1 (List.take 2 (List.drop ((q + 348) * 2) cs.toList)))) = some y1 := f1
  obtain ⟨n0, hc0, hy0, _⟩ := DataW.trod_int Tryz.underlying92 g0
  obtain ⟨n1, hc1, hy1, _⟩ := DataW.trod_int Tryz.underlying92 g1
  rw [hy0] at e0
  rw [hy1] at e1
  injection e0 with e0
  injection e0 with _ e0
  injection e1 with e1
  injection e1 with _ e1
  subst e0 e1
  have k0 : cs[(q + 348) * 2]? = some (.int .u64 (Fl.pm q : Nat)) := by
    have := congrArg (fun l => l[0]?) hc0
    simp only [List.getElem?_take, List.getElem?_drop, List.getElem?_cons_zero] at this
    simpa using this
  have k1 : cs[(q + 348) * 2 + 1]? = some (.int .u64 0) := by
    have := congrArg (fun l => l[0]?) hc1
    simp only [List.getElem?_take, List.getElem?_drop, List.getElem?_cons_zero] at this
    simpa using this
  exact ⟨(var_cell gPow hvar _).trans k0, (var_cell gPow hvar _).trans k1⟩

/-- WHAT THE ROWS LIST GIVES: the tables lie where they lie. -/
theorem laid_tabs {w : World} (h : laidMetH Tryz.prog Rows.fnInARowRow.laid w) : Tabs w.heap.size w := by
  have h' : laidMet Tryz.prog Rows.fnInARowRow.laid w := h
  obtain ⟨ps, hL, _⟩ := h'
  have hL0 : DataW.LaidVars Tryz.prog w [("math/bits.deBruijn32tab", Rows.laid_math_bits_deBruijn32tab), ("math/bits.deBruijn64tab", Rows.laid_math_bits_deBruijn64tab), ("internal/strconv.optimize", Rows.laid_internal_strconv_optimize), ("internal/strconv.uint64pow10", Rows.laid_internal_strconv_uint64pow10), ("internal/strconv.leftcheats", Rows.laid_internal_strconv_leftcheats), ("internal/strconv.pow10Tab", Rows.laid_internal_strconv_pow10Tab)] ps := hL
  obtain ⟨p1, hL1⟩ := laid_tail hL0
  obtain ⟨p2, hL2⟩ := laid_tail hL1
  obtain ⟨p3, hL3⟩ := laid_tail hL2
  obtain ⟨p4, hL4⟩ := laid_tail hL3
  obtain ⟨p5, hL5⟩ := laid_tail hL4
  obtain ⟨cs, fuel, q, hv, hd⟩ := laid_head gP64 gP64t hL3
  obtain ⟨cs2, fuel2, q2, hv2, hd2⟩ := laid_head gPow gPowt hL5
  have hpow := pow_at hv2 hd2
  have htab : Lib.TabIs Tryz.prog w "internal/strconv.uint64pow10" .u64 Lib.pow10Tab := by
    unfold Lib.TabIs
    rw [tabP64] at hd
    rw [hv, ← Lib.cells_of_tab Tryz.underlying162 Tryz.underlying92 cU64 cP64 hd]
  have c1 := htab.cell gP64 0 (by decide)
  exact ⟨hpow, htab, World.block_lt_of_cell? w _ (hpow 0 (by omega)).1, World.block_lt_of_cell? w _ c1, Nat.le_refl _⟩
end Go.Proofs.YtokmkkkanphihaaGreatRDoor
