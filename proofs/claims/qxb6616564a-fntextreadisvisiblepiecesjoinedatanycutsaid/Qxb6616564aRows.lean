/-
  No cell of these rows narrows 'for every input' (looked for: loops, veiled, ifaces, maps, wideKeys, modest, calm, conditions, laid).
  DERIVED. THE GIVEN ROWS OF THIS SEAT. 2 by the template 'for every input the law returns true; each argument reads behind the call as it read before'; 0 by the template 'total and deterministic' (their statements: Qxb6616564aTotals.lean).
  GIVEN WITH THE SEED: the statements are not yours to turn. If you find one false, say at which input.
  Laid BY PROGRAM, IN A SANDBOX (cutbox-rows.mjs): the forced cells as the released guide's own fill.sh prints them over the translation d3042746308f2102… (all of the seat's roots in one cut). By AI agents, Wed Nov 11 2026. No macro, syntax, notation, axiom, sorry.
-/
import Derived.Test.Qxb6616564aChecked
import GoSem.Claim
import GoSem.ClaimJoined
import GoSem.ClaimMapViews
import Derived.JoinedTies
import Derived.KernelRfl
namespace Go.Proofs.Qxb6616564a
/- THE CELL 'sum', in the pinned program and in every row, IS THE sha256 OF THE DUMP (.gsa) THAT Qxb6616564aProg.lean LOADS. Nothing in Lean hashes anything: it is a label: what it is worth is what the hold of that sum in a sandbox is worth. -/
noncomputable def Try.pinned : Pinned := { name := "qxb6616564a", sum := "d3042746308f210273ef80469668a04b935068e079b7d6f1648fb0e81bf9b490", checked := Try.checked }
namespace Rows
def none {H : Type} : Left H := { results := [], args := [] }

/-- 'zzlaws_root_b1.FnTextReadIsVisiblePiecesJoinedAtAnyCut': WHATEVER THE INPUT: true; the input reads as it did. -/
def fnTextReadIsVisiblePiecesJoinedAtAnyCutSpec : ChangeSpec := { name := "fnTextReadIsVisiblePiecesJoinedAtAnyCut", fn := fun _ => fun
  | [d1, d2] => { results := [.lit (.bool true)], args := [d1, d2] }
  | _ => none }
def fnTextReadIsVisiblePiecesJoinedAtAnyCutRow : OpenClaim := { program := "qxb6616564a", sum := "d3042746308f210273ef80469668a04b935068e079b7d6f1648fb0e81bf9b490", func := "example.com/tributary/tributary/zzlaws_root_b1.FnTextReadIsVisiblePiecesJoinedAtAnyCut", spec := "fnTextReadIsVisiblePiecesJoinedAtAnyCut", apart := false }
def FnTextReadIsVisiblePiecesJoinedAtAnyCutSaid : Prop := fnTextReadIsVisiblePiecesJoinedAtAnyCutRow.holds Try.pinned (OpenSpec.ofChange fnTextReadIsVisiblePiecesJoinedAtAnyCutSpec)

/-- ITS FALSE NEIGHBOUR: 'it returns false'. Refute it at one input. -/
def fnTextReadIsVisiblePiecesJoinedAtAnyCutWrong : ChangeSpec := { name := "fnTextReadIsVisiblePiecesJoinedAtAnyCut", fn := fun _ => fun
  | [d1, d2] => { results := [.lit (.bool false)], args := [d1, d2] }
  | _ => none }
def FnTextReadIsVisiblePiecesJoinedAtAnyCutWrongFalsely : Prop := fnTextReadIsVisiblePiecesJoinedAtAnyCutRow.holds Try.pinned (OpenSpec.ofChange fnTextReadIsVisiblePiecesJoinedAtAnyCutWrong)

/-- 'zzlaws_root_b1.FnTextReadDeletingAPieceCutsOutItsBytes': WHATEVER THE INPUT: true; the input reads as it did. -/
def fnTextReadDeletingAPieceCutsOutItsBytesSpec : ChangeSpec := { name := "fnTextReadDeletingAPieceCutsOutItsBytes", fn := fun _ => fun
  | [d1, d2] => { results := [.lit (.bool true)], args := [d1, d2] }
  | _ => none }
def fnTextReadDeletingAPieceCutsOutItsBytesRow : OpenClaim := { program := "qxb6616564a", sum := "d3042746308f210273ef80469668a04b935068e079b7d6f1648fb0e81bf9b490", func := "example.com/tributary/tributary/zzlaws_root_b1.FnTextReadDeletingAPieceCutsOutItsBytes", spec := "fnTextReadDeletingAPieceCutsOutItsBytes", apart := false }
def FnTextReadDeletingAPieceCutsOutItsBytesSaid : Prop := fnTextReadDeletingAPieceCutsOutItsBytesRow.holds Try.pinned (OpenSpec.ofChange fnTextReadDeletingAPieceCutsOutItsBytesSpec)

/-- ITS FALSE NEIGHBOUR: 'it returns false'. Refute it at one input. -/
def fnTextReadDeletingAPieceCutsOutItsBytesWrong : ChangeSpec := { name := "fnTextReadDeletingAPieceCutsOutItsBytes", fn := fun _ => fun
  | [d1, d2] => { results := [.lit (.bool false)], args := [d1, d2] }
  | _ => none }
def FnTextReadDeletingAPieceCutsOutItsBytesWrongFalsely : Prop := fnTextReadDeletingAPieceCutsOutItsBytesRow.holds Try.pinned (OpenSpec.ofChange fnTextReadDeletingAPieceCutsOutItsBytesWrong)

end Rows
end Go.Proofs.Qxb6616564a
