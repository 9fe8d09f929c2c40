/-
  The row of FnDescribeNegation, proved under what the row lists of the library's tables.
-/
import Derived.Test.Qxb6616816aDoorLaw
import Derived.ProofKit
import Derived.LaidMore
import Derived.OpenShut
import Derived.Stop.Joined
namespace Go.Proofs.Qxb6616816aDoor
open Go.ChangeShapes Go.WideShapes Go.ChangeAt Go.WideMaps Go.WideElems Go.RowKit

theorem own : ownKnob Tryd.prog.godebug = none := by kernel_rfl
theorem tPow : (Tryd.prog.globals[5]?).map (·.type) = some 68 := by kernel_rfl
theorem cells52 : Tryd.prog.cellsOf 52 = 1 := by kernel_rfl
theorem cells68 : Tryd.prog.cellsOf 68 = 20 := by kernel_rfl
theorem datum : (Rows.laid_internal_strconv_uint64pow10 : DataW Unit) = Lib.tabData .u64 Lib.pow10Tab := by kernel_rfl

/-- The door's own heap meets the condition. -/
theorem door_met (os : Os) (args : Array Value) : laidMetH Tryd.prog Rows.fnDescribeNegationRow.laid ((World.doorLaid Tryd.prog 138 os).forCall (fun _ _ => 0) ⟨#[], args, []⟩).memory :=
  laidMetH_of_parts3 (fuel := 8) (laidMet_of_run' 8 (by kernel_rfl) (by kernel_rfl)) (by kernel_rfl) (by kernel_rfl)

/-- What the condition gives the walk. -/
theorem of_laid {W : World} (h : laidMetH Tryd.prog Rows.fnDescribeNegationRow.laid W) : Tab W ∧ 5 < W.heap.size := by
  rw [MakeChecks.laidMetH_plain _ _ _ (by kernel_rfl)] at h
  obtain ⟨ps, ⟨g0, t0, cs0, f0, p0, q0, hg0, ht0, hv0, hd0, ⟨g1, t1, cs1, f1, p1, q1, hg1, ht1, hv1, hd1, ⟨g2, t2, cs2, f2, p2, q2, hg2, ht2, hv2, hd2, _, _⟩, _⟩, _⟩, _, _⟩ := h
  obtain rfl := Option.some.inj (gPow.symm.trans hg2)
  obtain rfl := Option.some.inj (tPow.symm.trans ht2)
  rw [datum] at hd2
  have hc := Lib.cells_of_tab Tryd.underlying68 Tryd.underlying52 cells52 cells68 hd2
  have hT : Tab W := by
    show W.var? Tryd.prog powN = _
    have e : cs2 = (Lib.pow10Tab.map fun z => Value.int .u64 z).toArray := by rw [← hc]
    rw [← e]; exact hv2
  refine ⟨hT, ?_⟩
  have := hT.cell gPow 0 (by decide)
  exact World.block_lt_of_cell? W _ this

set_option maxRecDepth 100000 in
theorem lifted (os : Os) (started : os.Started) (H : Type) (enc : TypeId × Value → H) :
    ReturnsInHanded {} Tryd.checked os 3 .any (fun w args => (Rows.fnDescribeNegationSpec.pre enc Tryd.prog Tryd.f3 [] false w args ∧ laidMetH Tryd.prog Rows.fnDescribeNegationRow.laid w) ∧ sizedMet enc Tryd.prog Tryd.f3 (OpenSpec.ofChange Rows.fnDescribeNegationSpec) false w args)
      (Rows.fnDescribeNegationSpec.post enc Tryd.prog Tryd.f3 false true false false) := by
  refine returnsInHanded_of_change_and (C := Tryd.checked) (X := fun w _ => laidMetH Tryd.prog Rows.fnDescribeNegationRow.laid w) (fun _ _ _ hh h => h.of_heap hh) own started (by kernel_rfl) Tryd.func3
    (ChangeSpec.witness_shaped (enc := enc) (C := Tryd.checked) (os := os) (X := fun w _ => laidMetH Tryd.prog Rows.fnDescribeNegationRow.laid w) false (World.doorLaid Tryd.prog 138 os) #[.int .i64 0] 8 rfl (World.shaped_of_RefB (by kernel_rfl) (by kernel_rfl)) (by kernel_rfl) (by kernel_rfl) (by kernel_rfl) (door_met os _)) ?_
  intro W base args ds gs before hval0 hW _ _ hL _
  have hval : ∀ (j : Nat) t v, Tryd.f3.params[j]? = some t → args[j]? = some v → Value.okWide Tryd.prog W .any base t v := hval0
  have hW' := hW
  obtain ⟨p, q, hA0, hV, rfl, hfz, hnd⟩ := hW
  have hA : DataW.TrodAll enc Tryd.prog W 0 (fun _ => true) true Tryd.f3.params.toList args.toList ds p := hA0
  rw [Tryd.params3] at hA hval
  obtain ⟨v0, d0, rfl, rfl, h0⟩ := trodAll_one hA
  obtain ⟨rfl, rfl⟩ := trodVars_none hV
  obtain ⟨a0, rfl, rfl, rfl, w0⟩ := open_int Tryd.underlying3 (hval 0 3 v0 rfl rfl) h0
  obtain ⟨hT, h5⟩ := of_laid hL
  clear hA0 hval0
  have hb := bounds_i64 w0
  refine (law a0 W hb.1 hb.2 hT h5).mono fun e W' ⟨he, bel⟩ => ?_
  subst he
  exact ⟨_, rfl, _, _, _, [], [], [], hW', trodAll_mk1 (shut_bool Tryd.underlying4 _), trodAll_mk1 (shut_int Tryd.underlying3 w0), rfl, bel.frame _, fun h => by cases h⟩

theorem row_holds : Rows.FnDescribeNegationSaid :=
  OpenClaim.holds_of_wide 3 Tryd.f3 rfl rfl rfl rfl rfl rfl rfl ⟨rfl, rfl, rfl, rfl, rfl⟩ rfl rfl rfl rfl rfl (by kernel_rfl) Tryd.func3 (by kernel_rfl)
    (of_decide_eq_true (by kernel_rfl)) (by unfold Func.isWrapper; first | (rw [if_pos (by decide +kernel)]; kernel_rfl) | (rw [if_neg (by decide +kernel)]; exact ⟨rfl, rfl⟩))
    (fun os started H enc _ => lifted os started H enc)

end Go.Proofs.Qxb6616816aDoor
