/- A world for the witness: strconv's variables as their initialisers lay them. -/
import Derived.Test.YtokmkkkanphihaaGreatRDoorYLaid
import Derived.Test.YtokmkkkanphihaaGreatRDoorTie
import Derived.WalkKit
import Derived.ProofKit
import Derived.OpenShut
import Derived.SizedLaws
import Derived.Deep.DeepHandedRow
import Derived.Deep.DeepWitnessRowRef
import Derived.Lib.LaidIn
namespace Go.Proofs.YtokmkkkanphihaaGreatRDoor
open Go.RowKit Go.Sort Go.ChangeShapes Go.WideShapes Go.Lib

theorem ownK : ownKnob Tryz.prog.godebug = none := by kernel_rfl

/-- The cells of a datum of plain words. -/
def flatCells : DataW Unit → List Value
  | .agg l => l.map fun
    | .lit (.int k n) => .int k n
    | .lit (.bool b) => .bool b
    | _ => .bool false
  | .lit (.bool b) => [.bool b]
  | _ => []
def cheatCells : List Value := Go.Pinned.cheatRows.flatMap fun x => [.int .i64 x.1, .string ⟨x.2.toArray⟩]
def two (x : Nat × Nat) : List Value := [.int .u64 x.1, .int .u64 x.2]
def powCells : List Value := Go.Pinned.pow10Rows.flatMap two

noncomputable def laidWorld (os : Os) : World :=
  let N := (World.settled Tryz.prog os).heap.size
  let w0 := World.holding Tryz.prog os ⟨#[.cells cheatCells.toArray 188], #[], []⟩
  let put (h : Array Obj) (g : Nat) (cs : Array Value) : Array Obj := h.modify g fun
    | .cells _ t frozen => .cells cs t frozen
    | o => o
  let h0 := put w0.heap 0 #[.bool true]
  let h1 := put h0 1 (flatCells Rows.laid_internal_strconv_uint64pow10).toArray
  let h2 := put h1 2 powCells.toArray
  let h3 := put h2 3 #[.slice (some ⟨N, 0, none⟩) Go.Pinned.cheatRows.length Go.Pinned.cheatRows.length]
  let h4 := put h3 4 (flatCells Rows.laid_math_bits_deBruijn32tab).toArray
  let h5 := put h4 5 (flatCells Rows.laid_math_bits_deBruijn64tab).toArray
  { w0 with heap := h5 }

noncomputable abbrev N0 : Nat := (World.settled Tryz.prog default).heap.size
noncomputable abbrev atLaid (os : Os) (args : Array Value) : World := (laidWorld os).forCall (fun _ _ => 0) ⟨#[], args, []⟩

set_option maxRecDepth 1000000 in
theorem piece0 (os : Os) (args : Array Value) : LaidIn Tryz.prog (atLaid os args).memory (Rows.fnInARowRow.laid.take 5) [4, 5, 0, 1, 3, N0] :=
  LaidIn.of_run _ 8 (by kernel_rfl) (by kernel_rfl) (by kernel_rfl) (by kernel_rfl)
/-! ### the table of powers, by its law and not by a run -/
theorem two_at : ∀ (R : List (Nat × Nat)) (i : Nat) (x : Nat × Nat), R[i]? = some x → ((R.flatMap two).drop (i * 2)).take 2 = two x
  | [], i, x, h => by simp at h
  | y :: R, 0, x, h => by
    simp only [List.getElem?_cons_zero, Option.some.injEq] at h
    subst h
    rfl
  | y :: R, i + 1, x, h => by
    have h1 := two_at R i x (by simpa using h)
    rw [show (i + 1) * 2 = i * 2 + 2 by omega, show (y :: R).flatMap two = .int .u64 y.1 :: .int .u64 y.2 :: R.flatMap two from rfl]
    exact h1
theorem two_len : ∀ R : List (Nat × Nat), (R.flatMap two).length = 2 * R.length
  | [] => rfl
  | y :: R => by
    have := two_len R
    rw [show (y :: R).flatMap two = .int .u64 y.1 :: .int .u64 y.2 :: R.flatMap two from rfl]
    simp only [List.length_cons]
    omega
theorem two_mem {R : List (Nat × Nat)} (hr : ∀ x ∈ R, x.1 ≤ 18446744073709551615 ∧ x.2 ≤ 18446744073709551615) {v : Value} (h : v ∈ R.flatMap two) : ∃ n : Nat, v = .int .u64 n ∧ n ≤ 18446744073709551615 := by
  obtain ⟨x, hx, hv⟩ := List.mem_flatMap.1 h
  simp only [two, List.mem_cons, List.not_mem_nil, or_false] at hv
  rcases hv with rfl | rfl
  · exact ⟨_, rfl, (hr x hx).1⟩
  · exact ⟨_, rfl, (hr x hx).2⟩
theorem no_iface {R : List (Nat × Nat)} (hr : ∀ x ∈ R, x.1 ≤ 18446744073709551615 ∧ x.2 ≤ 18446744073709551615) {u : TypeId} {v : Value} (h : Value.iface u v ∈ R.flatMap two) : False := by
  obtain ⟨n, hn, _⟩ := two_mem hr h
  cases hn
theorem wf64 {n : Nat} (h : n ≤ 18446744073709551615) : (Lit.int .u64 (n : Int)).wf = true := by
  have h1 : IntKind.u64.min = 0 := by decide
  have h2 : IntKind.u64.max = 18446744073709551615 := by decide
  simp only [Lit.wf, h1, h2, Bool.and_eq_true, decide_eq_true_eq]
  omega
theorem cTab : Tryz.prog.cellsOf 182 = 1392 := by kernel_rfl
theorem word_reads {w : World} {n : Nat} (h : n ≤ 18446744073709551615) : DataW.trod (fun _ => ()) Tryz.prog w 0 (fun _ => true) false 1 92 [.int .u64 n] = some (.lit (.int .u64 n), []) := by
  unfold DataW.trod
  rw [Tryz.underlying92]
  simp only [wf64 h, and_self, if_true]
theorem pair_reads {w : World} {y : Nat × Nat} (h : y.1 ≤ 18446744073709551615 ∧ y.2 ≤ 18446744073709551615) : DataW.trod (fun _ => ()) Tryz.prog w 0 (fun _ => true) false 2 181 (two y) = some (hiLo y, []) := by
  have h0 := word_reads (w := w) h.1
  have h1 := word_reads (w := w) h.2
  exact trod_struct2_mk (cs := two y) Tryz.underlying181 (by rw [cHiLo]; rfl) (y0 := (.lit (.int .u64 y.1), [])) (y1 := (.lit (.int .u64 y.2), [])) (by dsimp only; rw [cU64]; exact h0) (by dsimp only; rw [cU64]; exact h1)
theorem pow_reads {w : World} {R : List (Nat × Nat)} (hl : R.length = 696) (hr : ∀ x ∈ R, x.1 ≤ 18446744073709551615 ∧ x.2 ≤ 18446744073709551615) :
    DataW.trod (fun _ => ()) Tryz.prog w 0 (fun _ => true) false 3 182 (R.flatMap two) = some (.agg (R.map hiLo), []) := by
  have each : ∀ i, i < 696 → DataW.trod (fun _ => ()) Tryz.prog w 0 (fun _ => true) false 2 181 (((R.flatMap two).drop (i * Tryz.prog.cellsOf 181)).take (Tryz.prog.cellsOf 181)) = some ((fun i => (hiLo (R.getD i (0, 0)), ([] : List MemPlace))) i) := by
    intro i hi
    have hx : R[i]? = some (R.getD i (0, 0)) := by
      rw [List.getD_eq_getElem?_getD, List.getElem?_eq_getElem (by omega)]
      rfl
    rw [cHiLo, two_at R i _ hx]
    have hb := hr _ (List.mem_of_getElem? hx)
    exact pair_reads hb
  have h2 := mapM_range_of 696 each
  have h3 : (List.range 696).map (fun i => (hiLo (R.getD i (0, 0)), ([] : List MemPlace))) = R.map fun x => (hiLo x, []) := by
    apply List.ext_getElem
    · simp [hl]
    · intro i h4 h5
      simp only [List.getElem_map, List.getElem_range]
      rw [List.getD_eq_getElem?_getD, List.getElem?_eq_getElem (by simpa using h5)]
      rfl
  unfold DataW.trod
  rw [Tryz.underlying182]
  have hlen : (R.flatMap two).length = Tryz.prog.cellsOf 182 := by rw [two_len, cTab]; omega
  simp only [hlen, if_true]
  rw [h2, h3]
  simp only [Option.map_some, List.map_map, Function.comp_def, List.flatMap_map, Option.some.injEq, Prod.mk.injEq, true_and]
  exact List.flatMap_eq_nil_iff.2 fun _ _ => rfl

theorem rows_len : Go.Pinned.pow10Rows.length = 696 := by kernel_rfl
theorem rows_fit : ∀ x ∈ Go.Pinned.pow10Rows, x.1 ≤ 18446744073709551615 ∧ x.2 ≤ 18446744073709551615 := by
  have h : (Go.Pinned.pow10Rows.all fun x => Nat.ble x.1 18446744073709551615 && Nat.ble x.2 18446744073709551615) = true := by kernel_rfl
  intro x hx
  have := List.all_eq_true.1 h x hx
  simp only [Bool.and_eq_true] at this
  exact ⟨Nat.le_of_ble_eq_true this.1, Nat.le_of_ble_eq_true this.2⟩

set_option maxRecDepth 1000000 in
theorem pow_heap (os : Os) (args : Array Value) : (atLaid os args).heap[2]? = some (.cells powCells.toArray 182 (0, 0)) := by kernel_rfl

theorem piece1 (os : Os) (args : Array Value) : LaidIn Tryz.prog (atLaid os args).memory (Rows.fnInARowRow.laid.drop 5) [2] := by
  have hc : (atLaid os args).memory.heap[2]? = some (.cells powCells.toArray 182 (0, 0)) := pow_heap os args
  generalize (atLaid os args).memory = w at hc
  have hv : w.var? Tryz.prog "internal/strconv.pow10Tab" = some powCells.toArray := by
    unfold World.var?
    rw [gPow]
    simp only [Option.bind_some]
    rw [hc]
  refine LaidIn.one (p := []) (fuel := 3) _ gPow gPowt hv (pow_reads rows_len rows_fit) (by rw [List.append_nil]; exact rowP_nodup _ _) ?_ ?_
  · intro b off hp
    rw [List.append_nil] at hp
    obtain ⟨i, hi, e⟩ := MemPlace.mem_row.1 hp
    injection e with e1 e2
    have e1' : b = 2 := e1
    subst e1'
    refine ⟨⟨_, _, hc⟩, fun u v h => ?_⟩
    rw [var_cell gPow hv] at h
    have hm := Array.mem_of_getElem? h
    have hm2 : Value.iface u v ∈ powCells := List.mem_toArray.1 hm
    unfold powCells at hm2
    exact (no_iface rows_fit hm2).elim
  · intro x hx
    rw [List.append_nil] at hx
    obtain ⟨i, hi, rfl⟩ := MemPlace.mem_row.1 hx
    exact List.mem_singleton.2 rfl
theorem laid_met (os : Os) (args : Array Value) : laidMet Tryz.prog Rows.fnInARowRow.laid (atLaid os args).memory :=
  ((piece0 os args).append (piece1 os args) (by kernel_rfl)).met
theorem rows_ok {w : World} {R : List (Nat × Nat)} (hl : R.length = 696) (hr : ∀ x ∈ R, x.1 ≤ 18446744073709551615 ∧ x.2 ≤ 18446744073709551615) : Row.okRefB Tryz.checked.prog w 182 (R.flatMap two).toArray = true := by
  have ht : Tryz.checked.prog.cellTypes Tryz.checked.prog.depth 182 = some (List.replicate 1392 92) := by kernel_rfl
  unfold Row.okRefB
  rw [ht]
  have h1 : (R.flatMap two).toArray.size = 1392 := by rw [List.size_toArray, two_len]; omega
  simp only [h1, List.length_replicate, Nat.mod_self, Bool.and_eq_true, List.all_eq_true, List.mem_range]
  refine ⟨by simp, fun i hi => ?_⟩
  have h2 : i < (R.flatMap two).length := by rw [two_len]; omega
  rw [Nat.mod_eq_of_lt hi, List.getElem?_toArray, List.getElem?_eq_getElem h2, List.getElem?_replicate_of_lt hi]
  obtain ⟨n, hn, hb⟩ := two_mem hr (List.getElem_mem h2)
  rw [hn]
  have hu : Tryz.checked.prog.underlying 92 = some (.int .u64) := Tryz.underlying92
  simp only [Cell.okRefB, hu, Cell.okB]
  have h3 : IntKind.u64.min = 0 := by decide
  have h4 : IntKind.u64.max = 18446744073709551615 := by decide
  simp [h3, h4]
  omega
def varTest (P : Program) (w : World) (x : Option (Array Value × TypeId)) (o : Option Obj) : Bool :=
  match x with
  | none => true
  | some (zero, t) =>
    match o with
    | some (.cells cs t' frozen) => decide (t' = t) && decide (frozen = (0, 0)) && cs.size == zero.size && (!P.buildable t || Row.okRefB P w t cs)
    | _ => false
def varOk (P : Program) (w : World) (g : Nat) : Bool := varTest P w (((begin P (fun _ _ => 0) default).world.heap[g]?).bind Obj.row?) w.heap[g]?
theorem vars_of {P : Program} {w : World} (h : ∀ g, g < P.globals.size → varOk P w g = true) : w.variablesRefB P = true := by
  unfold World.variablesRefB
  refine List.all_eq_true.2 fun g hg => ?_
  exact h g (List.mem_range.1 hg)
theorem var_match {P : Program} {w : World} {x : Option (Array Value × TypeId)} {o : Option Obj} {t : TypeId} {cs : Array Value} {n : Nat} (hn : cs.size = n) (hx : x.map (fun z => (z.1.size, z.2)) = some (n, t)) (ho : o = some (.cells cs t (0, 0))) (hk : Row.okRefB P w t cs = true) :
    varTest P w x o = true := by
  subst ho hn
  obtain ⟨⟨z, t'⟩, rfl, hz⟩ := Option.map_eq_some_iff.1 hx
  simp only [Prod.mk.injEq] at hz
  obtain ⟨hz, rfl⟩ := hz
  simp [varTest, hz, hk]
theorem pow_size : powCells.toArray.size = 1392 := by
  rw [List.size_toArray]
  unfold powCells
  rw [two_len, rows_len]
theorem pow_ok (w : World) : Row.okRefB Tryz.checked.prog w 182 powCells.toArray = true := by
  unfold powCells
  exact rows_ok rows_len rows_fit
theorem pow_zero : (((begin Tryz.checked.prog (fun _ _ => 0) default).world.heap[2]?).bind Obj.row?).map (fun z => (z.1.size, z.2)) = some (1392, 182) := by kernel_rfl
theorem six : Tryz.checked.prog.globals.size = 6 := by kernel_rfl
set_option maxRecDepth 1000000 in
theorem v0 (os : Os) (args : Array Value) : varOk Tryz.checked.prog (atLaid os args) 0 = true := by kernel_rfl
set_option maxRecDepth 1000000 in
theorem v1 (os : Os) (args : Array Value) : varOk Tryz.checked.prog (atLaid os args) 1 = true := by kernel_rfl
theorem v2 (os : Os) (args : Array Value) : varOk Tryz.checked.prog (atLaid os args) 2 = true := by
  unfold varOk
  exact var_match pow_size pow_zero (pow_heap os args) (pow_ok _)
set_option maxRecDepth 1000000 in
theorem v3 (os : Os) (args : Array Value) : varOk Tryz.checked.prog (atLaid os args) 3 = true := by kernel_rfl
set_option maxRecDepth 1000000 in
theorem v4 (os : Os) (args : Array Value) : varOk Tryz.checked.prog (atLaid os args) 4 = true := by kernel_rfl
set_option maxRecDepth 1000000 in
theorem v5 (os : Os) (args : Array Value) : varOk Tryz.checked.prog (atLaid os args) 5 = true := by kernel_rfl
theorem laid_vars (os : Os) (args : Array Value) : (atLaid os args).variablesRefB Tryz.checked.prog = true := by
  refine vars_of fun g hg => ?_
  rw [six] at hg
  have hs : g = 0 ∨ g = 1 ∨ g = 2 ∨ g = 3 ∨ g = 4 ∨ g = 5 := by omega
  rcases hs with rfl | rfl | rfl | rfl | rfl | rfl
  · exact v0 os args
  · exact v1 os args
  · exact v2 os args
  · exact v3 os args
  · exact v4 os args
  · exact v5 os args
set_option maxRecDepth 1000000 in
theorem laid_heap (os : Os) (args : Array Value) : ((atLaid os args).heap.toList.drop Tryz.checked.prog.globals.size).take ((begin Tryz.checked.prog (fun _ _ => 0) default).world.heap.size - Tryz.checked.prog.globals.size) =
    (begin Tryz.checked.prog (fun _ _ => 0) default).world.heap.toList.drop Tryz.checked.prog.globals.size := by kernel_rfl
end Go.Proofs.YtokmkkkanphihaaGreatRDoor
