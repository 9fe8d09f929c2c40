/-
  ZZFirstBelow (13): a new tree that holds the slice, then firstBelow.
-/
import Derived.Test.Qxb6617903aWalk
namespace Go.Proofs.Qxb6617903a
open Go.RowKit

theorem cell_new (w : World) (v : Value) (t : TypeId) : (w.alloc (.cells #[v] t)).cell? ⟨w.heap.size, 0, none⟩ = some v := by
  simp

set_option maxHeartbeats 2000000 in
theorem fb13 (g n cap h k lo hi : Nat) (L : Nat → Int) (frm key : Int) (w : World) (hn : n ≤ 65536) (hg : g < w.heap.size)
    (hc : Hid (∀ j, j < 2 * n → w.cell? ⟨g, j, none⟩ = some (.int .i64 (L j)))) (ht : Hid (Tree L n)) (h1 : 1 ≤ k) (hk : k * 2 ^ h = n + lo) (hh : hi = lo + 2 ^ h) (hhi : hi ≤ n) :
    Calls Try.prog 13 #[.slice (some ⟨g, 0, none⟩) (2 * n) cap, .int .i64 k, .int .i64 lo, .int .i64 hi, .int .i64 frm, .int .i64 key] w fun e w' => e = .returned (.int .i64 (ans L n key frm lo hi)) ∧ Below w.heap.size w w' := by
  have hb : Below w.heap.size w (w.alloc (.cells #[.slice (some ⟨g, 0, none⟩) (2 * n) cap] 45)) := (Below.refl _ _).alloc (Nat.le_refl _) _
  have C := fb16 w.heap.size g n cap L frm key (w.alloc (.cells #[.slice (some ⟨g, 0, none⟩) (2 * n) cap] 45)) hn (cell_new _ _ _)
    (fun j hj => (hb.cell (p := ⟨g, j, none⟩) hg).trans (hc.out j hj)) ht h k lo hi k rfl h1 hk hh hhi
  clear hk hh hc ht
  go_enter Try.func13, Try.ntmps13
  go_wp2_with fail
  refine C.mono ?_
  rintro e w' ⟨rfl, rfl⟩
  go_wp2_with fail
  go_ret
  exact ⟨rfl, hb⟩

end Go.Proofs.Qxb6617903a
