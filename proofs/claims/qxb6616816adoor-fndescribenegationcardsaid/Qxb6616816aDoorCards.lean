/-
  DERIVED. GIVEN WITH THE SEED: THE CARDS: each row of Qxb6616816aDoorRows.lean that lists a variable, with what it lists TIED to the program's text (the seventh form; the later family's looks); each row that meets fmt, with fmt's text TOLD by the authors' own Lean function (tested against real Go, not proved from fmt's source: count such statements apart). THE CARD IS WHAT COUNTS. Prove the row's statement (the work); the ties are given (Qxb6616816aDoorTie.lean); close each card by the builder's one call (the guide's Derived/Test/ToyasCard.lean, 'card_holds'). Laid BY PROGRAM, IN A SANDBOX (cutbox-door.mjs). By AI agents, Wed Nov 11 2026. No macro, syntax, notation, axiom, sorry.
-/
import Derived.Test.Qxb6616816aDoorRows
import GoSem.ClaimSeven
namespace Go.Proofs.Qxb6616816aDoor
namespace Rows

/-- THE TIED CARD OF 'zzlaws_root_b1.FnDescribeNegation'. -/
def fnDescribeNegationCard : Claim7 := { stood := { row := fnDescribeNegationRow, standIns := [], harness := (true, "34834a7a29df8c1b45fdf5319a3edd08c1fe24d5671eed41e344820fa00ecd60"), looks := false }, kinds := [], alts := [], laidByText := true, laidKinds := [.data, .data, .data], laidTests := true, laidLooks := .later }
def FnDescribeNegationCardSaid : Prop := Claim7.holds Tryd.pinned (.plain (OpenSpec.ofChange fnDescribeNegationSpec)) fnDescribeNegationCard

/-- THE TIED CARD OF 'zzlaws_root_b1.FnIsMediaTypePadding'. -/
def fnIsMediaTypePaddingCard : Claim7 := { stood := { row := fnIsMediaTypePaddingRow, standIns := [], harness := (true, "34834a7a29df8c1b45fdf5319a3edd08c1fe24d5671eed41e344820fa00ecd60"), looks := false }, kinds := [], alts := [], laidByText := true, laidKinds := [.data, .data, .data, .pinned, .pinned], laidTests := true, laidLooks := .later }
def FnIsMediaTypePaddingCardSaid : Prop := Claim7.holds Tryd.pinned (.plain (OpenSpec.ofChange fnIsMediaTypePaddingSpec)) fnIsMediaTypePaddingCard

/-- THE TIED CARD OF 'zzlaws_root_b1.FnIsMediaTypeCaseSymmetry'. -/
def fnIsMediaTypeCaseSymmetryCard : Claim7 := { stood := { row := fnIsMediaTypeCaseSymmetryRow, standIns := [], harness := (true, "34834a7a29df8c1b45fdf5319a3edd08c1fe24d5671eed41e344820fa00ecd60"), looks := false }, kinds := [], alts := [], laidByText := true, laidKinds := [.data, .data, .data, .pinned, .pinned], laidTests := true, laidLooks := .later }
def FnIsMediaTypeCaseSymmetryCardSaid : Prop := Claim7.holds Tryd.pinned (.plain (OpenSpec.ofChange fnIsMediaTypeCaseSymmetrySpec)) fnIsMediaTypeCaseSymmetryCard
end Rows
end Go.Proofs.Qxb6616816aDoor
