/- What 'laws.FnInARow' returns is true and its argument reads as before, wherever the bulk of what it reads is at most 1048576. -/
import Derived.Test.YtokmkkkanphihaaGreatRDoorCard
namespace Go.Proofs.YtokmkkkanphihaaGreatRDoor
open Go.RowKit Go.Sort Go.ChangeShapes Go.WideShapes Go.ChangeAt

theorem bulk_app {H : Type} : ∀ (ds gs : List (DataW H)), Rows.uptoBulkAll ds ≤ Rows.uptoBulkAll (ds ++ gs)
  | [], _ => by simp [Rows.uptoBulkAll]
  | d :: ds, gs => by
    have := bulk_app ds gs
    simp only [List.cons_append, Rows.uptoBulkAll]
    omega
theorem bulk_of {H : Type} {ds gs : List (DataW H)} (h : Rows.uptoSmall H (ds ++ gs) = true) : Rows.uptoBulkAll ds ≤ 1048576 := by
  unfold Rows.uptoSmall at h
  exact Nat.le_trans (bulk_app ds gs) (of_decide_eq_true h)

abbrev noArg : Array Value := #[.slice none 0 0]
set_option maxRecDepth 100000 in
theorem reads6 (os : Os) {H : Type} (enc : TypeId × Value → H) : ∃ places, DataW.whole enc Tryz.prog (atLaid os noArg).memory Tryz.f6.params.toList Rows.fnInARowSpec.vars false noArg.toList 8 = some ([.nil], [], places) :=
  ⟨[], by kernel_rfl⟩
set_option maxRecDepth 1000000 in
theorem input6 (os : Os) : Input.okWideB Tryz.checked.prog (atLaid os noArg) 6 ⟨#[], noArg, []⟩ = true := by kernel_rfl

set_option maxRecDepth 100000 in
theorem lifted6 (os : Os) (started : os.Started) (H : Type) (enc : TypeId × Value → H) (F : Stop.Interp) :
    ReturnsInHanded {} Tryz.checked os 6 .any ((Rows.OpenSpec.upto Rows.fnInARowSpec).preRow enc Tryz.prog Tryz.f6 Rows.fnInARowUptoRow.domain false Rows.fnInARowUptoRow.laid) (((Rows.OpenSpec.upto Rows.fnInARowSpec).at F).post enc Tryz.prog Tryz.f6 false true false false) := by
  obtain ⟨places, hx⟩ := reads6 os enc
  refine returnsInHanded_of_row (C := Tryz.checked) (s := Rows.OpenSpec.upto Rows.fnInARowSpec) ownK started (by kernel_rfl) Tryz.func6
    (witness_row_atRef (enc := enc) (C := Tryz.checked) false (laidWorld os) noArg rfl (laid_vars os noArg) (laid_heap os noArg) (input6 os)
      (OpenSpec.preRow_of_cond 8 hx (by kernel_rfl) (fun k hk => by cases hk; kernel_rfl) (by kernel_rfl) (laid_met os noArg))) ?_
  intro W base args ds gs before hval hW _ hcond _ hL _ _
  exact contract H enc W base args ds gs before hW hL (bulk_of (hcond _ rfl)) hval

theorem said6 : Rows.FnInARowUptoSaid :=
  OpenClaim.holds_of_cond 6 Tryz.f6 rfl rfl rfl rfl rfl rfl rfl ⟨rfl, rfl, rfl, rfl, rfl⟩ rfl rfl rfl rfl rfl (by kernel_rfl) Tryz.func6 (by kernel_rfl)
    (of_decide_eq_true (by kernel_rfl)) (by unfold Func.isWrapper; first | (rw [if_pos (by decide +kernel)]; kernel_rfl) | (rw [if_neg (by decide +kernel)]; exact ⟨rfl, rfl⟩))
    (fun os started H enc _ F => by rw [OpenClaim.pre_eq_preRow]; exact lifted6 os started H enc F)

theorem named6 : Tryz.prog.funcNamed "loop.example/pub-g01521/laws.FnInARow" = some 6 := by kernel_rfl
theorem stand6 : Tryz.prog.wantsStandIn 23 = false := by kernel_rfl
theorem looks6 : true = Tryz.pinned.checked.prog.looks [] := by kernel_rfl
theorem plain6 (f : FuncId) (fn : Func) (hf : Tryz.pinned.checked.prog.funcNamed "loop.example/pub-g01521/laws.FnInARow" = some f) (hfn : Tryz.pinned.checked.prog.funcs[f]? = some fn) :
    true = Tryz.pinned.checked.prog.looks [] ∧ ∀ (j : Nat) t, fn.params[j]? = some t → Tryz.pinned.checked.prog.wantsStandIn t = false := by
  obtain rfl : f = 6 := Option.some.inj (named6.symm.trans hf) |>.symm
  obtain rfl : fn = Tryz.f6 := (Option.some.inj (Tryz.func6.symm.trans hfn)).symm
  refine ⟨looks6, fun j t ht => ?_⟩
  rw [par6] at ht
  obtain rfl : t = 23 := by simpa using Array.mem_of_getElem? ht
  exact stand6

/-- The card of the law, at inputs of bounded bulk. -/
theorem card6 : Rows.FnInARowUptoCardSaid :=
  Claim7.holds_tied_plain_at .later [] _ _ _ _ said6 (fun _ h => by cases h) (by kernel_rfl) (fun _ h => by cases h) fnInARowUpto_row_tie rfl ⟨rfl, rfl⟩ (by kernel_rfl) rfl plain6 (by kernel_rfl)
end Go.Proofs.YtokmkkkanphihaaGreatRDoor
