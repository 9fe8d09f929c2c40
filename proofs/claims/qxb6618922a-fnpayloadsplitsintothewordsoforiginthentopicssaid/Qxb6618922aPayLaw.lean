/-
  The plain laws of the payload: its length, and its cut.
-/
import Derived.Test.Qxb6618922aJoin
namespace Go.Proofs.Qxb6618922a.Pay
open Go.RowKit

def tot (sv : Nat → ByteArray) : Nat → Nat
  | 0 => 0
  | k + 1 => tot sv k + (1 + (sv k).size)

theorem lst_succ (n : Nat) (sv : Nat → ByteArray) : lst (n + 1) sv = lst n sv ++ [sv n] := by
  simp [lst, List.range_succ]
theorem lst_add (k m : Nat) (sv : Nat → ByteArray) : lst (k + m) sv = lst k sv ++ lst m (fun j => sv (k + j)) := by
  induction m with
  | zero => simp [lst]
  | succ m ih => rw [← Nat.add_assoc, lst_succ, ih, lst_succ, List.append_assoc]

theorem payL_eq (o : ByteArray) (n : Nat) (sv : Nat → ByteArray) : payL o n sv = o.data.toList ++ Lib.joinTail [32] ((lst n sv).map (·.data.toList)) := by
  unfold payL; rw [List.map_cons, Lib.join_cons]

theorem tail_append (a b : List (List UInt8)) : Lib.joinTail [32] (a ++ b) = Lib.joinTail [32] a ++ Lib.joinTail [32] b := by
  simp [Lib.joinTail]

theorem pay_succ (o : ByteArray) (n : Nat) (sv : Nat → ByteArray) : payL o (n + 1) sv = payL o n sv ++ (32 :: (sv n).data.toList) := by
  rw [payL_eq, payL_eq, lst_succ, List.map_append, tail_append, ← List.append_assoc]
  simp [Lib.joinTail]

theorem pay_len (o : ByteArray) (n : Nat) (sv : Nat → ByteArray) : (payL o n sv).length = o.size + tot sv n := by
  induction n with
  | zero => rw [payL_eq]; simp [lst, Lib.joinTail, tot]
  | succ n ih =>
    rw [pay_succ, List.length_append, ih, tot]
    simp; omega

theorem pay_size (o : ByteArray) (n : Nat) (sv : Nat → ByteArray) : (payB o n sv).size = o.size + tot sv n := by
  rw [← pay_len]; exact List.size_toArray

theorem pay_cut (o : ByteArray) (k m : Nat) (sv : Nat → ByteArray) : payL o (k + m) sv = payL o k sv ++ payL ByteArray.empty m (fun j => sv (k + j)) := by
  rw [payL_eq, payL_eq, payL_eq, lst_add, List.map_append, tail_append, ← List.append_assoc]
  simp

theorem payB_toList (o : ByteArray) (n : Nat) (sv : Nat → ByteArray) : (payB o n sv).toList = payL o n sv := by
  rw [ByteArray.toList_eq]; simp [payB]

theorem payB_cut (o : ByteArray) (n k : Nat) (h : k ≤ n) (sv : Nat → ByteArray) :
    ((payB o n sv).toList == (payB o k sv ++ payB ByteArray.empty (n - k) (fun j => sv (k + j))).toList) = true := by
  rw [ByteArray.toList_eq (payB o k sv ++ _), ByteArray.data_append, Array.toList_append, ← ByteArray.toList_eq, ← ByteArray.toList_eq, payB_toList, payB_toList, payB_toList, ← pay_cut, Nat.add_sub_cancel' h]
  simp

theorem tot_mono (sv : Nat → ByteArray) {k n : Nat} (h : k ≤ n) : tot sv k ≤ tot sv n := by
  induction n with
  | zero => have : k = 0 := by omega
            subst this; exact Nat.le_refl _
  | succ n ih =>
    by_cases e : k = n + 1
    · subst e; exact Nat.le_refl _
    · have := ih (by omega); show tot sv k ≤ tot sv n + _; omega
theorem tot_shift (sv : Nat → ByteArray) (k m : Nat) : tot sv (k + m) = tot sv k + tot (fun j => sv (k + j)) m := by
  induction m with
  | zero => rfl
  | succ m ih =>
    show tot sv (k + m) + (1 + (sv (k + m)).size) = tot sv k + (tot (fun j => sv (k + j)) m + (1 + (sv (k + m)).size))
    rw [ih]; omega

end Go.Proofs.Qxb6618922a.Pay
