/-
  A slice of pieces that came in, opened into what the walks ask.
-/
import Derived.Test.Qxb6616564aGuards
import Derived.Deep.SlicePairs
namespace Go.Proofs.Qxb6616564a
open Go.ChangeShapes Go.WideShapes Go.RowKit

theorem cells9 : Try.prog.cellsOf 9 = 1 := by kernel_rfl
theorem cells4 : Try.prog.cellsOf 4 = 1 := by kernel_rfl

theorem open_isP {H : Type} {enc : TypeId × Value → H} {W : World} {a1 : Option Addr} {len1 cap1 : Nat} {d : DataW H} {ps : List MemPlace}
    (h1 : DataW.Trod enc Try.prog W 0 (fun _ => true) true 22 (.slice a1 len1 cap1) d ps) :
    ∃ (sv : Nat → ByteArray) (dv : Nat → Bool), len1 ≤ maxLen ∧ len1 ≤ cap1 ∧ cap1 ≤ maxLen ∧ IsP W a1 len1 sv dv ∧ (a1 = none → len1 = 0 ∧ cap1 = 0) ∧ ∀ j, j < len1 → (sv j).size ≤ maxLen := by
  obtain ⟨fuel, hf⟩ := h1
  rcases Go.Deep.open_slice_pairs Try.underlying22 Try.underlying27 cells27 rfl rfl cells9 cells4 hf with ⟨hcs, _⟩ | ⟨x, l, c, m, n, V0, V1, D0, D1, P0, P1, hcs, _, hl, hm, hmm, _, hx⟩
  · simp [Value.cells] at hcs
    obtain ⟨rfl, rfl, rfl⟩ := hcs
    exact ⟨fun _ => ByteArray.empty, fun _ => false, by decide, by decide, by decide, .inl rfl, fun _ => ⟨rfl, rfl⟩, fun _ hj => absurd hj (Nat.not_lt_zero _)⟩
  · simp [Value.cells] at hcs
    obtain ⟨rfl, rfl, rfl⟩ := hcs
    have hm' : m = cap1 := by simpa using hmm
    have ex : ∀ i, i < len1 → ∃ q : ByteArray × Bool, W.cell? (x.add (i * 2)) = some (.string q.1) ∧ W.cell? (x.add (i * 2 + 1)) = some (.bool q.2) ∧ q.1.size ≤ maxLen := by
      intro i hi
      obtain ⟨g0, g1, t0, t1⟩ := hx i (by omega)
      obtain ⟨s, e0, _, hs⟩ := DataW.trod_string Try.underlying9 t0
      obtain ⟨b, e1, _⟩ := DataW.trod_bool Try.underlying4 t1
      simp at e0 e1
      rw [e0] at g0
      rw [e1] at g1
      exact ⟨(s, b), g0, g1, hs⟩
    obtain ⟨f, hf2⟩ := Go.Deep.choose_lt ex
    refine ⟨fun i => (f i).1, fun i => (f i).2, by omega, hl, hm, ?_, (fun h => nomatch h), fun j hj => (hf2 j hj).2.2⟩
    rcases Nat.eq_zero_or_pos len1 with e0 | e0
    · exact .inl e0
    · obtain ⟨b, off, spot⟩ := x
      have h0 := (hf2 0 e0).1
      have hspot : spot = none := by simpa [Addr.add] using World.cell?_spot h0
      subst hspot
      rw [add_plain] at h0
      have hlt := World.block_lt_of_cell? W _ h0
      refine .inr ⟨b, off, rfl, hlt, fun j hj => ?_⟩
      have g := hf2 j hj
      rw [add_plain, add_plain, ← Nat.add_assoc] at g
      exact ⟨g.1, g.2.1⟩

end Go.Proofs.Qxb6616564a
