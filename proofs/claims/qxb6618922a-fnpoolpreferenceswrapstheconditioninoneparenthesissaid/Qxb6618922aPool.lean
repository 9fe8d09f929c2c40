/-
  The contracts of the pool-preferences road: poolPreferences (28), ZZpoolPreferences (15), the two size guards (14, 16).
-/
import Derived.Test.Qxb6618922aProg
import Derived.WalkKit
import Derived.WalkLawsBesides
import Derived.WalkSpells
import Derived.ProofKit
import Derived.Deep.QuietTactic
import Derived.BigQuiet
namespace Go.Proofs.Qxb6618922a
open Go.RowKit

def preB : ByteArray := { data := ([40, 83, 69, 76, 69, 67, 84, 32, 110, 97, 109, 101, 44, 32, 116, 111, 112, 105, 99, 115, 44, 32, 108, 97, 98, 101, 108, 95, 115, 101, 116, 40, 108, 97, 98, 101].append [108, 115, 41, 32, 65, 83, 32, 108, 97, 98, 101, 108, 115, 32, 70, 82, 79, 77, 32, 112, 111, 111, 108, 115, 32, 65, 83, 32, 112, 32, 87, 72, 69, 82, 69, 32]).toArray }
def sufB : ByteArray := { data := ([41, 32, 65, 83, 32, 112, 10, 9, 9, 67, 82, 79, 83, 83, 32, 74, 79, 73, 78, 32, 76, 65, 84, 69, 82, 65, 76, 32, 40, 86, 65, 76, 85, 69, 83].append [32, 40, 39, 39, 41, 44, 32, 40, 112, 46, 110, 97, 109, 101, 41, 41, 32, 65, 83, 32, 112, 114, 101, 102, 101, 114, 114, 101, 100, 32, 40, 112, 111, 111, 108, 41]).toArray }
def ppB (c : ByteArray) : ByteArray := preB ++ c ++ sufB

theorem pre_size : preB.size = 72 := by decide +kernel
theorem suf_size : sufB.size = 71 := by decide +kernel
theorem pp_size (c : ByteArray) : (ppB c).size = 72 + c.size + 71 := by
  unfold ppB; rw [ByteArray.size_append, ByteArray.size_append, pre_size, suf_size]

theorem pp_pre (c : ByteArray) : (ppB c).extract 0 72 = preB := by
  unfold ppB; rw [ByteArray.append_assoc]; exact ByteArray.extract_append_eq_left pre_size.symm
theorem pp_mid (c : ByteArray) : (ppB c).extract 72 (72 + c.size) = c := by
  unfold ppB
  rw [ByteArray.append_assoc]
  show (preB ++ (c ++ sufB)).extract (72 + 0) (72 + c.size) = c
  rw [ByteArray.extract_append_size_add' pre_size.symm]
  exact ByteArray.extract_append_eq_left rfl
theorem pp_suf (c : ByteArray) : (ppB c).extract (72 + c.size) (ppB c).size = sufB := by
  rw [pp_size]
  unfold ppB
  exact ByteArray.extract_append_eq_right (by rw [ByteArray.size_append, pre_size]) (by rw [ByteArray.size_append, pre_size, suf_size])

theorem grown_drewN {W w : World} (h : Grown W w) (n : Nat) : Grown W (w.drewN n) := h

theorem pp28 (c : ByteArray) (w : World) (h : c.size ≤ 1048576) :
    Calls Try.prog 28 #[.string c] w fun e w' => e = .returned (.string (ppB c)) ∧ w = w' := by
  go_enter Try.func28, Try.ntmps28
  go_wp2
  go_ret
  exact ⟨rfl, rfl⟩

theorem pp15 (c : ByteArray) (w : World) (h : c.size ≤ 1048576) :
    Calls Try.prog 15 #[.string c] w fun e w' => e = .returned (.string (ppB c)) ∧ w = w' := by
  go_enter Try.func15, Try.ntmps15
  go_wp2_with (go_at_call 28; refine (pp28 _ _ h).mono ?_; rintro e w' ⟨rfl, rfl⟩)
  go_ret
  exact ⟨rfl, rfl⟩

theorem by14 (a b : ByteArray) (w : World) (ha : a.size ≤ maxLen) (hb : b.size ≤ maxLen) :
    Calls Try.prog 14 #[.string a, .string b] w fun e w' => e = .returned (.bool (decide (a.size + b.size ≤ 1048576))) ∧ w = w' := by
  unfold maxLen at ha hb
  by_cases h1 : a.size ≤ 1048576
  · by_cases h2 : b.size ≤ 1048576
    · by_cases h3 : a.size + b.size ≤ 1048576
      · rw [decide_eq_true h3]
        go_enter Try.func14, Try.ntmps14
        go_wp2
        go_ret
        exact ⟨rfl, rfl⟩
      · rw [decide_eq_false h3]
        go_enter Try.func14, Try.ntmps14
        go_wp2
        go_ret
        exact ⟨rfl, rfl⟩
    · rw [decide_eq_false (by omega)]
      go_enter Try.func14, Try.ntmps14
      go_wp2
      go_ret
      exact ⟨rfl, rfl⟩
  · rw [decide_eq_false (by omega)]
    go_enter Try.func14, Try.ntmps14
    go_wp2
    go_ret
    exact ⟨rfl, rfl⟩

theorem by16 (a : ByteArray) (w : World) (ha : a.size ≤ maxLen) :
    Calls Try.prog 16 #[.string a] w fun e w' => e = .returned (.bool (decide (a.size ≤ 1048576))) ∧ w = w' := by
  unfold maxLen at ha
  by_cases h1 : a.size ≤ 1048576
  · rw [decide_eq_true h1]
    go_enter Try.func16, Try.ntmps16
    go_wp2
    go_ret
    exact ⟨rfl, rfl⟩
  · rw [decide_eq_false (by omega)]
    go_enter Try.func16, Try.ntmps16
    go_wp2
    go_ret
    exact ⟨rfl, rfl⟩

theorem by14_t (a b : ByteArray) (w : World) (ha : a.size ≤ maxLen) (hb : b.size ≤ maxLen) (h : a.size + b.size ≤ 1048576) :
    Calls Try.prog 14 #[.string a, .string b] w fun e w' => e = .returned (.bool true) ∧ w = w' := by
  have := by14 a b w ha hb; rwa [decide_eq_true h] at this
theorem by14_f (a b : ByteArray) (w : World) (ha : a.size ≤ maxLen) (hb : b.size ≤ maxLen) (h : ¬ a.size + b.size ≤ 1048576) :
    Calls Try.prog 14 #[.string a, .string b] w fun e w' => e = .returned (.bool false) ∧ w = w' := by
  have := by14 a b w ha hb; rwa [decide_eq_false h] at this
theorem by16_t (a : ByteArray) (w : World) (ha : a.size ≤ maxLen) (h : a.size ≤ 1048576) :
    Calls Try.prog 16 #[.string a] w fun e w' => e = .returned (.bool true) ∧ w = w' := by
  have := by16 a w ha; rwa [decide_eq_true h] at this
theorem by16_f (a : ByteArray) (w : World) (ha : a.size ≤ maxLen) (h : ¬ a.size ≤ 1048576) :
    Calls Try.prog 16 #[.string a] w fun e w' => e = .returned (.bool false) ∧ w = w' := by
  have := by16 a w ha; rwa [decide_eq_false h] at this

end Go.Proofs.Qxb6618922a
