/-
  No cell of these rows narrows 'for every input' (looked for: loops, veiled, ifaces, maps, wideKeys, modest, calm, conditions, laid).
  DERIVED. THE GIVEN ROWS OF THIS SEAT. 3 by the template 'for every input the law returns true; each argument reads behind the call as it read before'; 0 by the template 'total and deterministic' (their statements: Qxb6617903aTotals.lean).
  GIVEN WITH THE SEED: the statements are not yours to turn. If you find one false, say at which input.
  Laid BY PROGRAM, IN A SANDBOX (cutbox-rows.mjs): the forced cells as the released guide's own fill.sh prints them over the translation 71c380cb0d0434cd… (all of the seat's roots in one cut). By AI agents, Wed Nov 11 2026. No macro, syntax, notation, axiom, sorry.
-/
import Derived.Test.Qxb6617903aChecked
import GoSem.Claim
import GoSem.ClaimJoined
import GoSem.ClaimMapViews
import Derived.JoinedTies
import Derived.KernelRfl
namespace Go.Proofs.Qxb6617903a
/- THE CELL 'sum', in the pinned program and in every row, IS THE sha256 OF THE DUMP (.gsa) THAT Qxb6617903aProg.lean LOADS. Nothing in Lean hashes anything: it is a label: what it is worth is what the hold of that sum in a sandbox is worth. -/
noncomputable def Try.pinned : Pinned := { name := "qxb6617903a", sum := "71c380cb0d0434cdb94803f331f32625ff6dbd118f04d3ce1d9c261ba436d87a", checked := Try.checked }
namespace Rows
def none {H : Type} : Left H := { results := [], args := [] }

/-- 'zzlaws_sim_b1.FnSplitRangesPerRangeClip': WHATEVER THE INPUT: true; the input reads as it did. -/
def fnSplitRangesPerRangeClipSpec : ChangeSpec := { name := "fnSplitRangesPerRangeClip", fn := fun _ => fun
  | [d1, d2, d3] => { results := [.lit (.bool true)], args := [d1, d2, d3] }
  | _ => none }
def fnSplitRangesPerRangeClipRow : OpenClaim := { program := "qxb6617903a", sum := "71c380cb0d0434cdb94803f331f32625ff6dbd118f04d3ce1d9c261ba436d87a", func := "example.com/wattline/wattline/zzlaws_sim_b1.FnSplitRangesPerRangeClip", spec := "fnSplitRangesPerRangeClip", apart := false }
def FnSplitRangesPerRangeClipSaid : Prop := fnSplitRangesPerRangeClipRow.holds Try.pinned (OpenSpec.ofChange fnSplitRangesPerRangeClipSpec)

/-- ITS FALSE NEIGHBOUR: 'it returns false'. Refute it at one input. -/
def fnSplitRangesPerRangeClipWrong : ChangeSpec := { name := "fnSplitRangesPerRangeClip", fn := fun _ => fun
  | [d1, d2, d3] => { results := [.lit (.bool false)], args := [d1, d2, d3] }
  | _ => none }
def FnSplitRangesPerRangeClipWrongFalsely : Prop := fnSplitRangesPerRangeClipRow.holds Try.pinned (OpenSpec.ofChange fnSplitRangesPerRangeClipWrong)

/-- 'zzlaws_sim_b1.FnRankCountsAtMostEveryCut': WHATEVER THE INPUT: true; the input reads as it did. -/
def fnRankCountsAtMostEveryCutSpec : ChangeSpec := { name := "fnRankCountsAtMostEveryCut", fn := fun _ => fun
  | [d1, d2] => { results := [.lit (.bool true)], args := [d1, d2] }
  | _ => none }
def fnRankCountsAtMostEveryCutRow : OpenClaim := { program := "qxb6617903a", sum := "71c380cb0d0434cdb94803f331f32625ff6dbd118f04d3ce1d9c261ba436d87a", func := "example.com/wattline/wattline/zzlaws_sim_b1.FnRankCountsAtMostEveryCut", spec := "fnRankCountsAtMostEveryCut", apart := false }
def FnRankCountsAtMostEveryCutSaid : Prop := fnRankCountsAtMostEveryCutRow.holds Try.pinned (OpenSpec.ofChange fnRankCountsAtMostEveryCutSpec)

/-- ITS FALSE NEIGHBOUR: 'it returns false'. Refute it at one input. -/
def fnRankCountsAtMostEveryCutWrong : ChangeSpec := { name := "fnRankCountsAtMostEveryCut", fn := fun _ => fun
  | [d1, d2] => { results := [.lit (.bool false)], args := [d1, d2] }
  | _ => none }
def FnRankCountsAtMostEveryCutWrongFalsely : Prop := fnRankCountsAtMostEveryCutRow.holds Try.pinned (OpenSpec.ofChange fnRankCountsAtMostEveryCutWrong)

/-- 'zzlaws_sim_b1.FnFirstBelowFirstScanned': WHATEVER THE INPUT: true; the input reads as it did. -/
def fnFirstBelowFirstScannedSpec : ChangeSpec := { name := "fnFirstBelowFirstScanned", fn := fun _ => fun
  | [d1, d2, d3, d4, d5, d6] => { results := [.lit (.bool true)], args := [d1, d2, d3, d4, d5, d6] }
  | _ => none }
def fnFirstBelowFirstScannedRow : OpenClaim := { program := "qxb6617903a", sum := "71c380cb0d0434cdb94803f331f32625ff6dbd118f04d3ce1d9c261ba436d87a", func := "example.com/wattline/wattline/zzlaws_sim_b1.FnFirstBelowFirstScanned", spec := "fnFirstBelowFirstScanned", recurses := true, apart := false }
def FnFirstBelowFirstScannedSaid : Prop := fnFirstBelowFirstScannedRow.holds Try.pinned (OpenSpec.ofChange fnFirstBelowFirstScannedSpec)

/-- ITS FALSE NEIGHBOUR: 'it returns false'. Refute it at one input. -/
def fnFirstBelowFirstScannedWrong : ChangeSpec := { name := "fnFirstBelowFirstScanned", fn := fun _ => fun
  | [d1, d2, d3, d4, d5, d6] => { results := [.lit (.bool false)], args := [d1, d2, d3, d4, d5, d6] }
  | _ => none }
def FnFirstBelowFirstScannedWrongFalsely : Prop := fnFirstBelowFirstScannedRow.holds Try.pinned (OpenSpec.ofChange fnFirstBelowFirstScannedWrong)

end Rows
end Go.Proofs.Qxb6617903a
