/-
  A slice of strings that came in, opened into what the walks ask.
-/
import Derived.Test.Qxb6618922aPay
import Derived.SliceStrings
namespace Go.Proofs.Qxb6618922a.Pay
open Go.ChangeShapes Go.WideShapes Go.RowKit

theorem cells9 : Try.prog.cellsOf 9 = 1 := by kernel_rfl

theorem open_isS {H : Type} {enc : TypeId × Value → H} {W : World} {a1 : Option Addr} {len1 cap1 : Nat} {d : DataW H} {ps : List MemPlace}
    (h1 : DataW.Trod enc Try.prog W 0 (fun _ => true) true 22 (.slice a1 len1 cap1) d ps) :
    ∃ sv : Nat → ByteArray, len1 ≤ maxLen ∧ IsS W a1 len1 sv ∧ (a1 = none → len1 = 0 ∧ cap1 = 0) ∧ ∀ j, j < len1 → (sv j).size ≤ maxLen := by
  obtain ⟨fuel, hf⟩ := h1
  rcases open_strings Try.underlying22 Try.underlying9 cells9 hf with ⟨hcs, _⟩ | ⟨x, l, c, ss, hcs, _, hl, hm, hz, _, hcell, hws⟩
  · simp [Value.cells] at hcs
    obtain ⟨rfl, rfl, rfl⟩ := hcs
    exact ⟨fun _ => ByteArray.empty, by decide, .inl rfl, fun _ => ⟨rfl, rfl⟩, fun j hj => absurd hj (Nat.not_lt_zero _)⟩
  · simp [Value.cells] at hcs
    obtain ⟨rfl, rfl, rfl⟩ := hcs
    have hz' : ss.length = cap1 := by simpa using hz
    refine ⟨fun j => ss.getD j ByteArray.empty, by omega, ?_, ⟨(fun h => nomatch h), fun j hj => ?_⟩⟩
    · rcases Nat.eq_zero_or_pos len1 with e0 | e0
      · exact .inl e0
      · obtain ⟨b, off, spot⟩ := x
        have hspot : spot = none := by simpa [Addr.add] using World.cell?_spot (hcell 0 (by omega))
        subst hspot
        have h0 := hcell 0 (by omega)
        rw [add_plain] at h0
        have hlt := World.block_lt_of_cell? W _ h0
        refine .inr ⟨b, off, rfl, hlt, fun j hj => ?_⟩
        rw [← add_plain]; exact hcell j (by omega)
    · have hj2 : j < ss.length := by omega
      exact hws _ (by show ss.getD j ByteArray.empty ∈ ss; simp [hj2])

end Go.Proofs.Qxb6618922a.Pay
