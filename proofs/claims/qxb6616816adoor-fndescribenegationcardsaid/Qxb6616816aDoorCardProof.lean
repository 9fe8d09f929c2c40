/-
  The tied card of FnDescribeNegation.
-/
import Derived.Test.Qxb6616816aDoorRowProof
import Derived.Test.Qxb6616816aDoorTie
import Derived.Test.Qxb6616816aDoorCards
import Derived.SevenTiedAt
namespace Go.Proofs.Qxb6616816aDoor
open Go

theorem fn3 : Tryd.prog.funcNamed Rows.fnDescribeNegationRow.func = some 3 := by kernel_rfl

/-- THE CARD -/
theorem card_holds : Rows.FnDescribeNegationCardSaid :=
  Claim7.holds_tied_plain_at .later [] [.data, .data, .data] true Rows.fnDescribeNegationCard.stood.harness false
    row_holds (fun _ h => by cases h) (by kernel_rfl) (fun _ h => by cases h) fnDescribeNegation_row_tie rfl ⟨rfl, rfl⟩ (by kernel_rfl) rfl
    (fun f fn hf hfn => by
      obtain rfl : f = 3 := (Option.some.inj (fn3.symm.trans hf)).symm
      obtain rfl : fn = Tryd.f3 := (Option.some.inj (Tryd.func3.symm.trans hfn)).symm
      exact ⟨by kernel_rfl, fun j t ht => by
        rw [Tryd.params3] at ht
        have hm : t ∈ [3] := by simpa using Array.mem_of_getElem? ht
        have hall : ([3].all fun u => !Tryd.prog.wantsStandIn u) = true := by kernel_rfl
        exact (show Tryd.prog.wantsStandIn t = false by simpa using List.all_eq_true.1 hall t hm)⟩)
    (by kernel_rfl)

end Go.Proofs.Qxb6616816aDoor
