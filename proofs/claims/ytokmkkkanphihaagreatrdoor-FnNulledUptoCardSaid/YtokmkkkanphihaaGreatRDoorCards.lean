/-
  DERIVED. GIVEN WITH THE SEED: THE CARDS: each row of YtokmkkkanphihaaGreatRDoorRows.lean that lists a variable, with what it lists TIED to the program's text (the seventh form; the later family's looks); each row that meets fmt, with fmt's text TOLD by the authors' own Lean function (tested against real Go, not proved from fmt's source: count such statements apart). THE CARD IS WHAT COUNTS. Prove the row's statement (the work); the ties are given (YtokmkkkanphihaaGreatRDoorTie.lean); close each card by the builder's one call (the guide's Derived/Test/ToyasCard.lean, 'card_holds'). Laid BY PROGRAM, IN A SANDBOX (cutbox-door.mjs). By AI agents, Wed Nov 11 2026. No macro, syntax, notation, axiom, sorry.
-/
import Derived.Test.YtokmkkkanphihaaGreatRDoorRows
import GoSem.ClaimSeven
namespace Go.Proofs.YtokmkkkanphihaaGreatRDoor
namespace Rows

/-- THE TIED CARD OF 'laws.FnNulled'. -/
def fnNulledCard : Claim7 := { stood := { row := fnNulledRow, standIns := [], harness := (true, "8216a3745057229c73e3d2b3cc73db728268bf9937cfdab6c675579ab64a0d6e"), looks := true }, kinds := [], alts := [], laidByText := true, laidKinds := [.data, .data, .data, .data, .pinned, .pinned], laidTests := true, laidLooks := .later }
def FnNulledCardSaid : Prop := Claim7.holds Tryz.pinned (.plain (OpenSpec.ofChange fnNulledSpec)) fnNulledCard

/-- THE TIED CARD OF 'laws.FnOmitted'. -/
def fnOmittedCard : Claim7 := { stood := { row := fnOmittedRow, standIns := [], harness := (true, "8216a3745057229c73e3d2b3cc73db728268bf9937cfdab6c675579ab64a0d6e"), looks := true }, kinds := [], alts := [], laidByText := true, laidKinds := [.data, .data, .data, .data, .pinned, .pinned], laidTests := true, laidLooks := .later }
def FnOmittedCardSaid : Prop := Claim7.holds Tryz.pinned (.plain (OpenSpec.ofChange fnOmittedSpec)) fnOmittedCard

/-- THE TIED CARD OF 'laws.FnWritten'. -/
def fnWrittenCard : Claim7 := { stood := { row := fnWrittenRow, standIns := [], harness := (true, "8216a3745057229c73e3d2b3cc73db728268bf9937cfdab6c675579ab64a0d6e"), looks := true }, kinds := [], alts := [], laidByText := true, laidKinds := [.data, .data, .data, .data, .pinned, .pinned], laidTests := true, laidLooks := .later }
def FnWrittenCardSaid : Prop := Claim7.holds Tryz.pinned (.plain (OpenSpec.ofChange fnWrittenSpec)) fnWrittenCard

/-- THE TIED CARD OF 'laws.FnInARow'. -/
def fnInARowCard : Claim7 := { stood := { row := fnInARowRow, standIns := [], harness := (true, "8216a3745057229c73e3d2b3cc73db728268bf9937cfdab6c675579ab64a0d6e"), looks := true }, kinds := [], alts := [], laidByText := true, laidKinds := [.data, .data, .data, .data, .pinned, .pinned], laidTests := true, laidLooks := .later }
def FnInARowCardSaid : Prop := Claim7.holds Tryz.pinned (.plain (OpenSpec.ofChange fnInARowSpec)) fnInARowCard

/-- THE SECOND FORM's CARD OF 'laws.FnNulled'. -/
def fnNulledUptoCard : Claim7 := { stood := { row := fnNulledUptoRow, standIns := [], harness := (true, "8216a3745057229c73e3d2b3cc73db728268bf9937cfdab6c675579ab64a0d6e"), looks := true }, kinds := [], alts := [], laidByText := true, laidKinds := [.data, .data, .data, .data, .pinned, .pinned], laidTests := true, laidLooks := .later }
def FnNulledUptoCardSaid : Prop := Claim7.holds Tryz.pinned (.plain (OpenSpec.upto fnNulledSpec)) fnNulledUptoCard

/-- THE SECOND FORM's CARD OF 'laws.FnOmitted'. -/
def fnOmittedUptoCard : Claim7 := { stood := { row := fnOmittedUptoRow, standIns := [], harness := (true, "8216a3745057229c73e3d2b3cc73db728268bf9937cfdab6c675579ab64a0d6e"), looks := true }, kinds := [], alts := [], laidByText := true, laidKinds := [.data, .data, .data, .data, .pinned, .pinned], laidTests := true, laidLooks := .later }
def FnOmittedUptoCardSaid : Prop := Claim7.holds Tryz.pinned (.plain (OpenSpec.upto fnOmittedSpec)) fnOmittedUptoCard

/-- THE SECOND FORM's CARD OF 'laws.FnWritten'. -/
def fnWrittenUptoCard : Claim7 := { stood := { row := fnWrittenUptoRow, standIns := [], harness := (true, "8216a3745057229c73e3d2b3cc73db728268bf9937cfdab6c675579ab64a0d6e"), looks := true }, kinds := [], alts := [], laidByText := true, laidKinds := [.data, .data, .data, .data, .pinned, .pinned], laidTests := true, laidLooks := .later }
def FnWrittenUptoCardSaid : Prop := Claim7.holds Tryz.pinned (.plain (OpenSpec.upto fnWrittenSpec)) fnWrittenUptoCard

/-- THE SECOND FORM's CARD OF 'laws.FnInARow'. -/
def fnInARowUptoCard : Claim7 := { stood := { row := fnInARowUptoRow, standIns := [], harness := (true, "8216a3745057229c73e3d2b3cc73db728268bf9937cfdab6c675579ab64a0d6e"), looks := true }, kinds := [], alts := [], laidByText := true, laidKinds := [.data, .data, .data, .data, .pinned, .pinned], laidTests := true, laidLooks := .later }
def FnInARowUptoCardSaid : Prop := Claim7.holds Tryz.pinned (.plain (OpenSpec.upto fnInARowSpec)) fnInARowUptoCard
end Rows
end Go.Proofs.YtokmkkkanphihaaGreatRDoor
