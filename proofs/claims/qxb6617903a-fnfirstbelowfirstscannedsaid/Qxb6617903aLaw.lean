/-
  The walk of FnFirstBelowFirstScanned (5).
-/
import Derived.Test.Qxb6617903aArith
namespace Go.Proofs.Qxb6617903a
open Go.RowKit

set_option maxHeartbeats 2000000 in
set_option maxRecDepth 100000 in
theorem law_odd (x : Addr) (len n c : Nat) (L : Nat → Int) (k lo hi frm key : Int) (w : World) (h2 : 2 ≤ len) (hlen : len ≤ maxLen) (hq : (len : Int) / 2 = n) (hm : 2 * (n : Int) < len) (hs : Hid (∀ j, j < len → w.cell? (x.add j) = some (.int .i64 (L j)))) :
    Calls Try.prog 5 #[.slice (some x) len c, .int .i64 k, .int .i64 lo, .int .i64 hi, .int .i64 frm, .int .i64 key] w fun e w' => e = .returned (.bool true) ∧ Below w.heap.size w w' := by
  obtain ⟨i0, hi0, hz0, hz1, hz2⟩ := info_parts info2
  have B12 := by12 (some x) len c k lo hi frm key w hlen
  unfold maxLen at hlen
  have hne := neq22
  go_enter Try.func5, Try.ntmps5
  go_wp2_with fail
  refine B12.mono ?_
  clear B12
  rintro e w' (⟨rfl, rfl⟩ | ⟨rfl, rfl⟩)
  · go_wp2
    go_ret
    exact ⟨rfl, Below.refl _ _⟩
  · by_cases hbig : len ≤ 131072
    · go_wp2_with (at_make; refine wpList_make_full _ rfl _ _ 22 rfl w.heap.size 2 i0 _ 1 Try.underlying22 hi0 hz0 hz1 .i64 .i64 len len len rfl rfl rfl rfl (by rw [hz2]; omega) (by unfold maxLen; omega) (Nat.le_refl _) ?_)
      intro w1 hown hgrow
      obtain ⟨cur, hcur, hcl⟩ := made_block hown
      have hb1 : Below w.heap.size w w1 := (Below.refl _ _).grown hgrow (Nat.le_refl _) (by intro k hk; cases hk)
      have hsrc := copied_src hs.out hb1
      clear hown hgrow
      go_wp2_with (refine wpList_copy_splice rfl _ _ 22 22 rfl 2 Try.underlying22 size2 (some ⟨w.heap.size, 0, none⟩) (some x) len len len c rfl rfl w.heap.size 0 cur 2 hcur (row len L) (by simp [row_length]) (fun _ => ⟨rfl, x, rfl, hsrc⟩) (by simp [row_length, hcl]) (row_one _ L) w.heap.size w hb1 (Nat.le_refl _) ?_)
      intro w2 hcur2 hb2
      clear hcur2 hcur hsrc hb1
      go_wp2
      go_ret
      exact ⟨rfl, hb2⟩
    · go_wp2
      go_ret
      exact ⟨rfl, Below.refl _ _⟩

end Go.Proofs.Qxb6617903a
