/-
  describe (14), ZZdescribe (6), and the walk of FnDescribeNegation (3).
-/
import Derived.Test.Qxb6616816aDoorRows
import Derived.Test.Qxb6616816aDoorBack
import Derived.Test.Qxb6616816aDoorShelf
import Derived.Lib.AppendIntMem
import Derived.WalkSmall
namespace Go.Proofs.Qxb6616816aDoor
open Go.RowKit Go.Lib

/-- The library's table, by the row's own word for it. -/
def powN : String := Rows.fnDescribeNegationRow.named.headD ""
theorem gPow : Tryd.prog.globalNamed powN = some 5 := by kernel_rfl
def Tab (w : World) : Prop := TabIs Tryd.prog w powN .u64 pow10Tab
theorem Tab.later {w w' : World} {B : Nat} (h : Tab w) (hb : Below B w w') (hB : 5 < B) : Tab w' := var?_below hb gPow hB h

def itoaB (i : Int) : ByteArray := ⟨(itoa i).toArray⟩
def desc (i : Int) : ByteArray := preB ++ itoaB i

theorem itoa17 (n : Int) (h0 : -9223372036854775808 ≤ n) (h1 : n ≤ 9223372036854775807) (w : World) (htab : Tab w) :
    Calls Tryd.prog 17 #[.int .i64 n] w fun e w' => e = .returned (.string (itoaB n)) ∧ Below w.heap.size w w' := by
  refine (Any.strconv_Itoa Tryd.laysM171 n h0 h1 w htab).mono fun e w' ⟨he, k, os, hw⟩ => ⟨he, ?_⟩
  rw [hw]
  exact below_grow w.heap.size w (Nat.le_refl _) k os

theorem itoa_len (i : Int) (h0 : -9223372036854775808 ≤ i) (h1 : i ≤ 9223372036854775807) : (itoaB i).size ≤ 20 := by
  have e : (itoaB i).size = (itoa i).length := List.size_toArray
  rw [e]
  unfold itoa
  split
  · have := dec_len_le i.natAbs (by omega)
    simp; omega
  · have := dec_len_le i.toNat (by omega)
    omega

set_option maxHeartbeats 1000000 in
theorem desc14 (i : Int) (h0 : -9223372036854775808 ≤ i) (h1 : i ≤ 9223372036854775807) (w : World) (htab : Tab w) (h5 : 5 < w.heap.size) :
    Calls Tryd.prog 14 #[.agg #[.int .i64 i]] w fun e w' => e = .returned (.string (desc i)) ∧ Below w.heap.size w w' := by
  have hl := itoa_len i h0 h1
  have HT : Hid (Tab w) := htab
  have H0 : Hid (-9223372036854775808 ≤ i ∧ i ≤ 9223372036854775807) := ⟨h0, h1⟩
  clear h0 h1 htab
  go_enter Tryd.func14, Tryd.ntmps14
  go_wp2_with fail
  refine (itoa17 i H0.out.1 H0.out.2 _ (HT.out.later ((Below.refl _ _).alloc (Nat.le_refl _) _) h5)).mono ?_
  rintro e w1 ⟨rfl, hb⟩
  have hbE : Below w.heap.size w w1 := ((Below.refl _ _).alloc (Nat.le_refl _) _).trans (hb.mono (by simp))
  clear hb
  go_wp2
  go_ret
  exact ⟨rfl, hbE⟩

theorem desc6 (i : Int) (h0 : -9223372036854775808 ≤ i) (h1 : i ≤ 9223372036854775807) (w : World) (htab : Tab w) (h5 : 5 < w.heap.size) :
    Calls Tryd.prog 6 #[.int .i64 i] w fun e w' => e = .returned (.string (desc i)) ∧ Below w.heap.size w w' := by
  have HT : Hid (Tab w) := htab
  have H0 : Hid (-9223372036854775808 ≤ i ∧ i ≤ 9223372036854775807) := ⟨h0, h1⟩
  clear h0 h1 htab
  go_enter Tryd.func6, Tryd.ntmps6
  go_wp2_with fail
  refine (desc14 i H0.out.1 H0.out.2 _ HT.out h5).mono ?_
  rintro e w1 ⟨rfl, hb⟩
  go_wp2
  go_ret
  exact ⟨rfl, hb⟩

/-! ### The plain facts on a description -/
theorem desc_size (i : Int) : (desc i).size = 13 + (itoaB i).size := by unfold desc; rw [ByteArray.size_append, pre_size]
theorem desc_pre (i : Int) : ((desc i).extract 0 13).toList = preB.toList := by
  unfold desc; rw [ByteArray.extract_append_eq_left pre_size.symm]
theorem desc_rest (i : Int) : (desc i).extract 13 (desc i).size = itoaB i := by
  rw [desc_size]; unfold desc
  exact ByteArray.extract_append_eq_right pre_size.symm (by rw [pre_size])

theorem itoa_pos (u : Nat) : (itoaB (u : Int)).data.toList = decDigits u := by
  unfold itoaB itoa
  rw [if_neg (by omega)]
  simp
theorem itoa_neg (u : Nat) (h : 1 ≤ u) : itoa (-(u : Int)) = 45 :: decDigits u := by
  unfold itoa
  rw [if_pos (by omega)]
  simp
theorem size_of_list (b : ByteArray) (l : List UInt8) (h : b.data.toList = l) : b.size = l.length := by
  rw [← h]; simp

theorem back_at_pos (u : Nat) (w : World) (hu : u ≤ 9223372036854775807) : Calls Tryd.prog 7 #[.string (desc u), .int .i64 u] w fun e w' => e = .returned (.bool true) ∧ w = w' := by
  have hl := itoa_len (u : Int) (by omega) (by omega)
  have hs := desc_size (u : Int)
  have h1 := size_of_list _ _ (itoa_pos u)
  have h2 : 0 < (decDigits u).length := List.length_pos_iff.2 (dec_ne u)
  exact back_pos (desc u) (itoaB u) u w hu (by omega) (by omega) (by omega) (desc_pre _) (desc_rest _) (itoa_pos u)

def digB (u : Nat) : ByteArray := ⟨(decDigits u).toArray⟩
theorem neg_parts (u : Nat) (h : 1 ≤ u) : itoaB (-(u : Int)) = (⟨#[45]⟩ : ByteArray) ++ digB u := by
  unfold itoaB digB
  rw [itoa_neg u h]
  exact (ByteArray.mk_append_mk [45] (decDigits u)).symm
theorem back_at_neg (u : Nat) (w : World) (h : 1 ≤ u) (hu : u ≤ 9223372036854775807) : Calls Tryd.prog 7 #[.string (desc (-(u : Int))), .int .i64 (-(u : Int))] w fun e w' => e = .returned (.bool true) ∧ w = w' := by
  have hl := itoa_len (-(u : Int)) (by omega) (by omega)
  have hs := desc_size (-(u : Int))
  have hD : (digB u).data.toList = decDigits u := by simp [digB]
  have h1 := size_of_list _ _ hD
  have h2 : 0 < (decDigits u).length := List.length_pos_iff.2 (dec_ne u)
  have h3 : (itoaB (-(u : Int))).size = (digB u).size + 1 := by
    rw [neg_parts u h, ByteArray.size_append]
    have : (⟨#[45]⟩ : ByteArray).size = 1 := rfl
    omega
  refine back_neg (desc (-(u : Int))) (itoaB (-(u : Int))) (digB u) u w h hu (by omega) (by omega) (by omega) (by omega) (by omega) (desc_pre _) (desc_rest _) ?_ ?_ hD
  · have e : (itoaB (-(u : Int))).data.toList = 45 :: decDigits u := by unfold itoaB; rw [itoa_neg u h]
    have e2 : (itoaB (-(u : Int))).data.toList[0]'(by rw [e]; simp) = (itoaB (-(u : Int)))[0]'(by omega) := rfl
    rw [← e2]
    simp [e]
  · rw [neg_parts u h]
    exact ByteArray.extract_append_eq_right rfl (by rw [ByteArray.size_append])

/-- The two descriptions part by one sign. -/
theorem sign_eq (u : Nat) (h : 1 ≤ u) : desc (-(u : Int)) = ({ data := #[112, 97, 116, 104, 32, 115, 101, 103, 109, 101, 110, 116, 32, 45] } : ByteArray) ++ itoaB (u : Int) := by
  have e1 : itoaB (u : Int) = digB u := by
    unfold digB
    have := itoa_pos u
    unfold itoaB at this ⊢
    simp at this
    rw [this]
  have e2 : ({ data := #[112, 97, 116, 104, 32, 115, 101, 103, 109, 101, 110, 116, 32, 45] } : ByteArray) = preB ++ (⟨#[45]⟩ : ByteArray) := by decide +kernel
  unfold desc
  rw [neg_parts u h, e1, e2, ByteArray.append_assoc]

end Go.Proofs.Qxb6616816aDoor
