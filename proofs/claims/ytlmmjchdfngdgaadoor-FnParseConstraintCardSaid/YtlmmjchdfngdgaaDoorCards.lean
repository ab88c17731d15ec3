/-
  DERIVED. GIVEN WITH THE SEED: THE CARDS: each row of YtlmmjchdfngdgaaDoorRows.lean that lists a variable, with what it lists TIED to the program's text (the seventh form; the later family's looks); each row that meets fmt, with fmt's text TOLD by the authors' own Lean function (tested against real Go, not proved from fmt's source: count such statements apart). THE CARD IS WHAT COUNTS. Prove the row's statement (the work); the ties are given (YtlmmjchdfngdgaaDoorTie.lean); close each card by the builder's one call (the guide's Derived/Test/ToyasCard.lean, 'card_holds'). Laid BY PROGRAM, IN A SANDBOX (cutbox-door.mjs). By AI agents, Wed Nov 11 2026. No macro, syntax, notation, axiom, sorry.
-/
import Derived.Test.YtlmmjchdfngdgaaDoorRows
import GoSem.ClaimSeven
namespace Go.Proofs.YtlmmjchdfngdgaaDoor
namespace Rows

/-- THE TIED CARD OF 'laws.FnFormula'. -/
def fnFormulaCard : Claim7 := { stood := { row := fnFormulaRow, standIns := [], harness := (true, "5b3b51c6e9d02b74bb1b9063b8cb9c2883cf71ce3ba9b0c20c1ef0c0fdac8d06"), looks := false }, kinds := [], alts := [], laidByText := true, laidKinds := [.data, .pinned, .pinned], laidTests := true, laidLooks := .later }
def FnFormulaCardSaid : Prop := Claim7.holds Tryd.pinned (.plain (OpenSpec.ofChange fnFormulaSpec)) fnFormulaCard

/-- THE TIED CARD OF 'laws.FnOption'. -/
def fnOptionCard : Claim7 := { stood := { row := fnOptionRow, standIns := [], harness := (true, "5b3b51c6e9d02b74bb1b9063b8cb9c2883cf71ce3ba9b0c20c1ef0c0fdac8d06"), looks := false }, kinds := [], alts := [], laidByText := true, laidKinds := [.data, .pinned, .pinned], laidTests := true, laidLooks := .later }
def FnOptionCardSaid : Prop := Claim7.holds Tryd.pinned (.plain (OpenSpec.ofChange fnOptionSpec)) fnOptionCard

/-- THE TIED CARD OF 'laws.FnParseConstraint'. -/
def fnParseConstraintCard : Claim7 := { stood := { row := fnParseConstraintRow, standIns := [], harness := (true, "5b3b51c6e9d02b74bb1b9063b8cb9c2883cf71ce3ba9b0c20c1ef0c0fdac8d06"), looks := false }, kinds := [], alts := [], laidByText := true, laidKinds := [.listed, .data, .data, .pinned, .pinned], laidTests := true, laidLooks := .later }
def FnParseConstraintCardSaid : Prop := Claim7.holds Tryd.pinned (.plain (OpenSpec.ofChange fnParseConstraintSpec)) fnParseConstraintCard

/-- THE TIED CARD OF 'laws.FnConstraints'. -/
def fnConstraintsCard : Claim7 := { stood := { row := fnConstraintsRow, standIns := [], harness := (true, "5b3b51c6e9d02b74bb1b9063b8cb9c2883cf71ce3ba9b0c20c1ef0c0fdac8d06"), looks := false }, kinds := [], alts := [], laidByText := true, laidKinds := [.data, .pinned, .pinned], laidTests := true, laidLooks := .later }
def FnConstraintsCardSaid : Prop := Claim7.holds Tryd.pinned (.plain (OpenSpec.ofChange fnConstraintsSpec)) fnConstraintsCard

/-- THE SECOND FORM's CARD OF 'laws.FnFormula'. -/
def fnFormulaUptoCard : Claim7 := { stood := { row := fnFormulaUptoRow, standIns := [], harness := (true, "5b3b51c6e9d02b74bb1b9063b8cb9c2883cf71ce3ba9b0c20c1ef0c0fdac8d06"), looks := false }, kinds := [], alts := [], laidByText := true, laidKinds := [.data, .pinned, .pinned], laidTests := true, laidLooks := .later }
def FnFormulaUptoCardSaid : Prop := Claim7.holds Tryd.pinned (.plain (OpenSpec.upto fnFormulaSpec)) fnFormulaUptoCard

/-- THE SECOND FORM's CARD OF 'laws.FnOption'. -/
def fnOptionUptoCard : Claim7 := { stood := { row := fnOptionUptoRow, standIns := [], harness := (true, "5b3b51c6e9d02b74bb1b9063b8cb9c2883cf71ce3ba9b0c20c1ef0c0fdac8d06"), looks := false }, kinds := [], alts := [], laidByText := true, laidKinds := [.data, .pinned, .pinned], laidTests := true, laidLooks := .later }
def FnOptionUptoCardSaid : Prop := Claim7.holds Tryd.pinned (.plain (OpenSpec.upto fnOptionSpec)) fnOptionUptoCard

/-- THE SECOND FORM's CARD OF 'laws.FnParseConstraint'. -/
def fnParseConstraintUptoCard : Claim7 := { stood := { row := fnParseConstraintUptoRow, standIns := [], harness := (true, "5b3b51c6e9d02b74bb1b9063b8cb9c2883cf71ce3ba9b0c20c1ef0c0fdac8d06"), looks := false }, kinds := [], alts := [], laidByText := true, laidKinds := [.listed, .data, .data, .pinned, .pinned], laidTests := true, laidLooks := .later }
def FnParseConstraintUptoCardSaid : Prop := Claim7.holds Tryd.pinned (.plain (OpenSpec.upto fnParseConstraintSpec)) fnParseConstraintUptoCard

/-- THE SECOND FORM's CARD OF 'laws.FnConstraints'. -/
def fnConstraintsUptoCard : Claim7 := { stood := { row := fnConstraintsUptoRow, standIns := [], harness := (true, "5b3b51c6e9d02b74bb1b9063b8cb9c2883cf71ce3ba9b0c20c1ef0c0fdac8d06"), looks := false }, kinds := [], alts := [], laidByText := true, laidKinds := [.data, .pinned, .pinned], laidTests := true, laidLooks := .later }
def FnConstraintsUptoCardSaid : Prop := Claim7.holds Tryd.pinned (.plain (OpenSpec.upto fnConstraintsSpec)) fnConstraintsUptoCard
end Rows
end Go.Proofs.YtlmmjchdfngdgaaDoor
