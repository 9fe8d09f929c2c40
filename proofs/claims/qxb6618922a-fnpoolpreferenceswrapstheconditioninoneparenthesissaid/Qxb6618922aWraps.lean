/-
  The walk of FnPoolPreferencesWrapsTheConditionInOneParenthesis (6) and of its callee zzParen (17).
-/
import Derived.Test.Qxb6618922aPool
namespace Go.Proofs.Qxb6618922a.Wraps
open Go.RowKit

def pstep (p : Int × Int) (c : UInt8) : Int × Int :=
  if (c.toNat : Int) = 40 then (p.1 + 1, p.2) else if (c.toNat : Int) = 41 then (p.1 - 1, if p.1 - 1 < p.2 then p.1 - 1 else p.2) else p
def paren (l : List UInt8) : Int × Int := l.foldl pstep (0, 0)
def pnet (l : List UInt8) : Int := (paren l).1
def plow (l : List UInt8) : Int := (paren l).2

theorem paren_snoc (l : List UInt8) (c : UInt8) : paren (l ++ [c]) = pstep (paren l) c := by
  simp [paren, List.foldl_append]
theorem take_snoc (s : ByteArray) (k : Nat) (h : k < s.size) : s.data.toList.take (k + 1) = s.data.toList.take k ++ [s[k]] := by
  rw [List.take_succ_eq_append_getElem (by simpa using h)]; rfl
theorem bounds (l : List UInt8) : -(l.length : Int) ≤ pnet l ∧ pnet l ≤ l.length ∧ -(l.length : Int) ≤ plow l ∧ plow l ≤ l.length := by
  unfold pnet plow
  have go : ∀ (l : List UInt8) (p : Int × Int) (n : Nat), -(n : Int) ≤ p.1 → p.1 ≤ n → -(n : Int) ≤ p.2 → p.2 ≤ n →
      -((n + l.length : Nat) : Int) ≤ (l.foldl pstep p).1 ∧ (l.foldl pstep p).1 ≤ (n + l.length : Nat) ∧ -((n + l.length : Nat) : Int) ≤ (l.foldl pstep p).2 ∧ (l.foldl pstep p).2 ≤ (n + l.length : Nat) := by
    intro l
    induction l with
    | nil => intro p n h1 h2 h3 h4; simpa using ⟨h1, h2, h3, h4⟩
    | cons c l ih =>
      intro p n h1 h2 h3 h4
      have := ih (pstep p c) (n + 1) (by unfold pstep; split <;> (try split) <;> simp <;> omega) (by unfold pstep; split <;> (try split) <;> simp <;> omega)
        (by unfold pstep; split <;> (try split) <;> (try split) <;> simp <;> omega) (by unfold pstep; split <;> (try split) <;> (try split) <;> simp <;> omega)
      simp only [List.foldl_cons, List.length_cons]
      rw [show n + (l.length + 1) = n + 1 + l.length from by omega]
      exact this
  have := go l (0, 0) 0 (by simp) (by simp) (by simp) (by simp)
  unfold paren
  simpa using this
theorem net_open (s : ByteArray) (k : Nat) (h : k < s.size) (e : (s[k].toNat : Int) = 40) :
    pnet (s.data.toList.take (k + 1)) = pnet (s.data.toList.take k) + 1 ∧ plow (s.data.toList.take (k + 1)) = plow (s.data.toList.take k) := by
  unfold pnet plow; rw [take_snoc s k h, paren_snoc]; simp [pstep, e]
theorem net_shut (s : ByteArray) (k : Nat) (h : k < s.size) (e : (s[k].toNat : Int) = 41) :
    pnet (s.data.toList.take (k + 1)) = pnet (s.data.toList.take k) - 1 ∧
    plow (s.data.toList.take (k + 1)) = if pnet (s.data.toList.take k) - 1 < plow (s.data.toList.take k) then pnet (s.data.toList.take k) - 1 else plow (s.data.toList.take k) := by
  unfold pnet plow; rw [take_snoc s k h, paren_snoc]; simp [pstep, e]
theorem net_else (s : ByteArray) (k : Nat) (h : k < s.size) (e1 : ¬ (s[k].toNat : Int) = 40) (e2 : ¬ (s[k].toNat : Int) = 41) :
    pnet (s.data.toList.take (k + 1)) = pnet (s.data.toList.take k) ∧ plow (s.data.toList.take (k + 1)) = plow (s.data.toList.take k) := by
  unfold pnet plow; rw [take_snoc s k h, paren_snoc]; simp [pstep, e1, e2]

set_option maxHeartbeats 2000000 in
theorem paren17 (s : ByteArray) (w : World) (hs : s.size ≤ 2000000) :
    Calls Try.prog 17 #[.string s] w fun e w' => e = .returned (.tuple #[.int .i64 (pnet s.data.toList), .int .i64 (plow s.data.toList)]) ∧ w = w' := by
  go_enter Try.func17, Try.ntmps17
  go_wp2
  go_loop [4, 5, 6] (fun n l i => ∃ k : Nat, k ≤ s.size ∧ i = .int .i64 k ∧ n = .int .i64 (pnet (s.data.toList.take k)) ∧ l = .int .i64 (plow (s.data.toList.take k))) (fun _ _ i => s.size - (intOf i).toNat)
  case atStart => exact ⟨0, Nat.zero_le _, rfl, rfl, rfl⟩
  case round =>
    obtain ⟨k, hk, rfl, rfl, rfl⟩ := hrel
    have hb := bounds (s.data.toList.take k)
    have hl : (s.data.toList.take k).length ≤ k := List.length_take_le _ _
    by_cases hlt : k < s.size
    · have HO : Hid ((s[k].toNat : Int) = 40 → pnet (s.data.toList.take (k + 1)) = pnet (s.data.toList.take k) + 1 ∧ plow (s.data.toList.take (k + 1)) = plow (s.data.toList.take k)) := net_open s k hlt
      have HS : Hid ((s[k].toNat : Int) = 41 → pnet (s.data.toList.take (k + 1)) = pnet (s.data.toList.take k) - 1 ∧
        plow (s.data.toList.take (k + 1)) = if pnet (s.data.toList.take k) - 1 < plow (s.data.toList.take k) then pnet (s.data.toList.take k) - 1 else plow (s.data.toList.take k)) := net_shut s k hlt
      have HE : Hid (¬ (s[k].toNat : Int) = 40 → ¬ (s[k].toNat : Int) = 41 → pnet (s.data.toList.take (k + 1)) = pnet (s.data.toList.take k) ∧ plow (s.data.toList.take (k + 1)) = plow (s.data.toList.take k)) := net_else s k hlt
      go_wp2
      · have e1 : (s[k].toNat : Int) = 40 := by have h : ((s[k].toNat : Int) == 40) = true := by assumption
                                                simpa using h
        have R := HO.out e1
        go_round
        case rel => exact ⟨k + 1, by omega, by go_num, by rw [R.1], by rw [R.2]⟩
        case measure => simp [intOf]; omega
      · have e1 : (s[k].toNat : Int) = 41 := by have h : ((s[k].toNat : Int) == 41) = true := by assumption
                                                simpa using h
        have hc : pnet (List.take k s.data.toList) - 1 < plow (List.take k s.data.toList) := by assumption
        have R := HS.out e1
        rw [if_pos hc] at R
        go_round
        case rel => exact ⟨k + 1, by omega, by go_num, by rw [R.1], by rw [R.2]⟩
        case measure => simp [intOf]; omega
      · have e1 : (s[k].toNat : Int) = 41 := by have h : ((s[k].toNat : Int) == 41) = true := by assumption
                                                simpa using h
        have hc : plow (List.take k s.data.toList) ≤ pnet (List.take k s.data.toList) - 1 := by assumption
        have R := HS.out e1
        rw [if_neg (by omega)] at R
        go_round
        case rel => exact ⟨k + 1, by omega, by go_num, by rw [R.1], by rw [R.2]⟩
        case measure => simp [intOf]; omega
      · have e1 : ¬ (s[k].toNat : Int) = 40 := by have h : ((s[k].toNat : Int) == 40) = false := by assumption
                                                  simpa using h
        have e2 : ¬ (s[k].toNat : Int) = 41 := by have h : ((s[k].toNat : Int) == 41) = false := by assumption
                                                  simpa using h
        have R := HE.out e1 e2
        go_round
        case rel => exact ⟨k + 1, by omega, by go_num, by rw [R.1], by rw [R.2]⟩
        case measure => simp [intOf]; omega
    · go_wp2
      go_ret2
      have e : s.data.toList.take k = s.data.toList := List.take_of_length_le (by simp; omega)
      rw [e]
      exact ⟨rfl, rfl⟩

theorem paren17_any (s : ByteArray) (w : World) (hs : s.size ≤ 2000000) :
    Calls Try.prog 17 #[.string s] w fun e w' => ∃ n l : Int, e = .returned (.tuple #[.int .i64 n, .int .i64 l]) ∧ w = w' :=
  (paren17 s w hs).mono fun _ _ ⟨he, hw⟩ => ⟨_, _, he, hw⟩
theorem pre_paren : pnet preB.data.toList = 1 ∧ plow preB.data.toList = 0 := by decide +kernel
theorem suf_paren : pnet sufB.data.toList = -1 ∧ plow sufB.data.toList = -1 := by decide +kernel
theorem paren17_pre (s : ByteArray) (w : World) (hs : s = preB) :
    Calls Try.prog 17 #[.string s] w fun e w' => e = .returned (.tuple #[.int .i64 1, .int .i64 0]) ∧ w = w' := by
  subst hs
  have h := paren17 preB w (by rw [pre_size]; omega)
  rwa [pre_paren.1, pre_paren.2] at h
theorem paren17_suf (s : ByteArray) (w : World) (hs : s = sufB) :
    Calls Try.prog 17 #[.string s] w fun e w' => e = .returned (.tuple #[.int .i64 (-1), .int .i64 (-1)]) ∧ w = w' := by
  subst hs
  have h := paren17 sufB w (by rw [suf_size]; omega)
  rwa [suf_paren.1, suf_paren.2] at h

set_option maxHeartbeats 4000000 in
theorem main_walk (c : ByteArray) (hc : c.size ≤ 1048576) (w : World) :
    Calls Try.prog 6 #[.string c] w fun e w' => e = .returned (.bool true) ∧ Grown w w' := by
  have sa := pp_size c
  have ea : ((ppB c).size : Int) - (c.size : Int) = 143 := by omega
  have a1 : 143 + c.size ≤ (ppB c).size := by omega
  have a2 : (ppB c).size ≤ 1500000 := by omega
  clear sa
  go_enter Try.func6, Try.ntmps6
  go_wp2_with (first
    | (go_at_call 16; refine (by16_t _ _ (by unfold maxLen; omega) hc).mono ?_; rintro e w' ⟨rfl, rfl⟩)
    | (go_at_call 15; refine (pp15 _ _ (by omega)).mono ?_; rintro e w' ⟨rfl, rfl⟩))
  go_loop [5] (fun i => ∃ k : Nat, k ≤ 72 ∧ i = .int .i64 k) (fun i => 72 - (intOf i).toNat)
  case atStart => exact ⟨0, by omega, rfl⟩
  case round =>
    obtain ⟨k, hk, rfl⟩ := hrel
    by_cases hk72 : k = 72
    · subst hk72
      have hm : (((ppB c).extract 72 (72 + c.size)).toList == c.toList) = true := by rw [pp_mid]; simp
      have g1 := pp_pre c
      have g2 := pp_suf c
      have G1 : Hid ((ppB c).extract 0 72 = preB) := g1
      have G2 : Hid ((ppB c).extract (72 + c.size) (ppB c).size = sufB) := g2
      clear g1 g2
      go_wp2_with fail
      refine (paren17_pre _ _ G1.out).mono ?_
      rintro e w' ⟨rfl, rfl⟩
      go_wp2_with fail
      refine (paren17_suf _ _ G2.out).mono ?_
      rintro e w' ⟨rfl, rfl⟩
      go_wp2
      go_ret
      exact ⟨rfl, Grown.refl _⟩
    rcases h2 : ((ppB c).extract k (k + c.size)).toList == c.toList with _ | _
    · go_wp2
      go_round
      case rel => exact ⟨k + 1, by omega, by go_num⟩
      case measure => simp [intOf]; omega
    · go_wp2_with (go_at_call 17; refine (paren17_any _ _ (by simp; omega)).mono ?_; rintro e w' ⟨n, l, rfl, rfl⟩)
      · go_ret
        exact ⟨rfl, Grown.refl _⟩
      all_goals
        go_round
        case rel => exact ⟨k + 1, by omega, by go_num⟩
        case measure => simp [intOf]; omega

theorem walk (c : ByteArray) (hc : c.size ≤ maxLen) (w : World) :
    Calls Try.prog 6 #[.string c] w fun e w' => e = .returned (.bool true) ∧ Grown w w' := by
  by_cases ht : c.size ≤ 1048576
  · exact main_walk c ht w
  · go_enter Try.func6, Try.ntmps6
    go_wp2_with (go_at_call 16; refine (by16_f _ _ hc ht).mono ?_; rintro e w' ⟨rfl, rfl⟩)
    go_ret
    exact ⟨rfl, Grown.refl _⟩

end Go.Proofs.Qxb6618922a.Wraps
