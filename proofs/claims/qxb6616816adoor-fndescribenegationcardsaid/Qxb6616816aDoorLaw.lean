/-
  The walk of FnDescribeNegation (3).
-/
import Derived.Test.Qxb6616816aDoorNeg
namespace Go.Proofs.Qxb6616816aDoor
open Go.RowKit Go.Lib

set_option maxHeartbeats 1000000 in
theorem law_pos (u : Nat) (w : World) (h1 : 1 ≤ u) (hu : u ≤ 9223372036854775807) (htab : Tab w) (h5 : 5 < w.heap.size) :
    Calls Tryd.prog 3 #[.int .i64 u] w fun e w' => e = .returned (.bool true) ∧ Below w.heap.size w w' := by
  have HT : Hid (Tab w) := htab
  have hR : (desc (u : Int)).extract 13 (desc (u : Int)).size = itoaB (u : Int) := desc_rest _
  have sa : 13 ≤ (desc (u : Int)).size := by rw [desc_size]; omega
  have sb : 13 ≤ (desc (-(u : Int))).size := by rw [desc_size]; omega
  have sc : (itoaB (u : Int)).size ≤ 20 := itoa_len _ (by omega) (by omega)
  have F : ((desc (-(u : Int))).toList == (({ data := #[112, 97, 116, 104, 32, 115, 101, 103, 109, 101, 110, 116, 32, 45] } : ByteArray) ++ itoaB (u : Int)).toList) = true := by rw [sign_eq u h1]; simp
  clear htab
  go_enter Tryd.func3, Tryd.ntmps3
  go_wp2_with fail
  refine (desc6 (u : Int) (by omega) (by omega) w HT.out h5).mono ?_
  rintro e w1 ⟨rfl, hb1⟩
  have HT1 : Hid (Tab w1) := HT.out.later hb1 h5
  have h51 : 5 < w1.heap.size := Nat.lt_of_lt_of_le h5 hb1.size
  go_wp2_with fail
  refine (desc6 (-(u : Int)) (by omega) (by omega) w1 HT1.out h51).mono ?_
  rintro e w2 ⟨rfl, hb2⟩
  have hbE : Below w.heap.size w w2 := hb1.trans (hb2.mono hb1.size)
  clear hb1 hb2 HT HT1 h51
  go_wp2_with fail
  refine (back_at_pos u w2 hu).mono ?_
  rintro e w3 ⟨rfl, rfl⟩
  go_wp2
  go_ret
  exact ⟨rfl, hbE⟩

set_option maxHeartbeats 1000000 in
theorem law_neg (u : Nat) (w : World) (h1 : 1 ≤ u) (hu : u ≤ 9223372036854775807) (htab : Tab w) (h5 : 5 < w.heap.size) :
    Calls Tryd.prog 3 #[.int .i64 (-(u : Int))] w fun e w' => e = .returned (.bool true) ∧ Below w.heap.size w w' := by
  have HT : Hid (Tab w) := htab
  have hR : (desc (u : Int)).extract 13 (desc (u : Int)).size = itoaB (u : Int) := desc_rest _
  have sa : 13 ≤ (desc (u : Int)).size := by rw [desc_size]; omega
  have sb : 13 ≤ (desc (-(u : Int))).size := by rw [desc_size]; omega
  have sc : (itoaB (u : Int)).size ≤ 20 := itoa_len _ (by omega) (by omega)
  have F : ((desc (-(u : Int))).toList == (({ data := #[112, 97, 116, 104, 32, 115, 101, 103, 109, 101, 110, 116, 32, 45] } : ByteArray) ++ itoaB (u : Int)).toList) = true := by rw [sign_eq u h1]; simp
  have hlt : -(u : Int) < 0 := by omega
  have hgt : -9223372036854775808 < -(u : Int) := by omega
  clear htab
  go_enter Tryd.func3, Tryd.ntmps3
  go_wp2_with fail
  refine (desc6 (-(u : Int)) (by omega) (by omega) w HT.out h5).mono ?_
  rintro e w1 ⟨rfl, hb1⟩
  have HT1 : Hid (Tab w1) := HT.out.later hb1 h5
  have h51 : 5 < w1.heap.size := Nat.lt_of_lt_of_le h5 hb1.size
  go_wp2_with fail
  refine (desc6 (u : Int) (by omega) (by omega) w1 HT1.out h51).mono ?_
  rintro e w2 ⟨rfl, hb2⟩
  have hbE : Below w.heap.size w w2 := hb1.trans (hb2.mono hb1.size)
  clear hb1 hb2 HT HT1 h51
  go_wp2_with fail
  refine (back_at_neg u w2 h1 hu).mono ?_
  rintro e w3 ⟨rfl, rfl⟩
  go_wp2
  go_ret
  exact ⟨rfl, hbE⟩

set_option maxHeartbeats 1000000 in
theorem law_zero (w : World) (htab : Tab w) (h5 : 5 < w.heap.size) :
    Calls Tryd.prog 3 #[.int .i64 0] w fun e w' => e = .returned (.bool true) ∧ Below w.heap.size w w' := by
  have HT : Hid (Tab w) := htab
  have sa : 13 ≤ (desc 0).size := by rw [desc_size]; omega
  clear htab
  go_enter Tryd.func3, Tryd.ntmps3
  go_wp2_with fail
  refine (desc6 0 (by omega) (by omega) w HT.out h5).mono ?_
  rintro e w1 ⟨rfl, hb1⟩
  have HT1 : Hid (Tab w1) := HT.out.later hb1 h5
  have h51 : 5 < w1.heap.size := Nat.lt_of_lt_of_le h5 hb1.size
  go_wp2_with fail
  refine (desc6 0 (by omega) (by omega) w1 HT1.out h51).mono ?_
  rintro e w2 ⟨rfl, hb2⟩
  have hbE : Below w.heap.size w w2 := hb1.trans (hb2.mono hb1.size)
  clear hb1 hb2 HT HT1 h51
  go_wp2_with fail
  refine (back_at_pos 0 w2 (by omega)).mono ?_
  rintro e w3 ⟨rfl, rfl⟩
  go_wp2
  go_ret
  exact ⟨rfl, hbE⟩

theorem law_min (w : World) : Calls Tryd.prog 3 #[.int .i64 (-9223372036854775808)] w fun e w' => e = .returned (.bool true) ∧ Below w.heap.size w w' := by
  go_enter Tryd.func3, Tryd.ntmps3
  go_wp2
  go_ret
  exact ⟨rfl, Below.refl _ _⟩

/-- The law, whatever the input. -/
theorem law (i : Int) (w : World) (h0 : -9223372036854775808 ≤ i) (h1 : i ≤ 9223372036854775807) (htab : Tab w) (h5 : 5 < w.heap.size) :
    Calls Tryd.prog 3 #[.int .i64 i] w fun e w' => e = .returned (.bool true) ∧ Below w.heap.size w w' := by
  by_cases hm : i = -9223372036854775808
  · subst hm; exact law_min w
  · by_cases hz : i = 0
    · subst hz; exact law_zero w htab h5
    · by_cases hp : 0 < i
      · obtain ⟨u, rfl⟩ : ∃ u : Nat, i = u := ⟨i.toNat, by omega⟩
        exact law_pos u w (by omega) (by omega) htab h5
      · obtain ⟨u, rfl⟩ : ∃ u : Nat, i = -(u : Int) := ⟨i.natAbs, by omega⟩
        exact law_neg u w (by omega) (by omega) htab h5

end Go.Proofs.Qxb6616816aDoor
