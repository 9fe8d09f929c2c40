/-
  Plain: the decimal digits, read from the right; no leading zero. Nothing of the dump.
-/
import Derived.Lib.ItoaNum
namespace Go.Proofs.Qxb6616816aDoor
open Go.Lib

theorem dec_ne (u : Nat) : decDigits u ≠ [] := by
  intro e
  have := decDigits_length u
  rw [e] at this
  have := nDigits_pos u
  simp at *
  omega
theorem dec_big {u : Nat} (h : ¬ u < 10) : decDigits u = decDigits (u / 10) ++ [UInt8.ofNat (48 + u % 10)] := by rw [decDigits, dif_neg h]
theorem byte_of {r : Nat} (h : r < 10) : (UInt8.ofNat (48 + r)).toNat = 48 + r := by
  simp; omega

/-- One step of the read-back. -/
theorem dig_step (L : List UInt8) (t u : Nat) (ht : t < L.length) (h : L.take (t + 1) = decDigits u) :
    (L[t]).toNat = 48 + u % 10 ∧ ((u < 10 ∧ t = 0) ∨ (10 ≤ u ∧ ∃ t', t = t' + 1 ∧ L.take (t' + 1) = decDigits (u / 10))) := by
  rw [List.take_succ_eq_append_getElem ht] at h
  by_cases hu : u < 10
  · rw [decDigits_one hu] at h
    have hl := congrArg List.length h
    simp at hl
    have ht0 : t = 0 := by omega
    subst ht0
    simp only [List.take_zero, List.nil_append, List.cons.injEq, and_true] at h
    refine ⟨?_, .inl ⟨hu, rfl⟩⟩
    rw [h, Nat.mod_eq_of_lt hu]
    exact byte_of hu
  · rw [dec_big hu] at h
    obtain ⟨h1, h2⟩ := List.append_inj' h rfl
    simp only [List.cons.injEq, and_true] at h2
    refine ⟨by rw [h2]; exact byte_of (Nat.mod_lt _ (by decide)), .inr ⟨by omega, ?_⟩⟩
    cases t with
    | zero => simp at h1; exact absurd h1 (dec_ne _)
    | succ t' => exact ⟨t', rfl, h1⟩

/-- No leading zero. -/
theorem dec_head (u : Nat) (hu : 1 ≤ u) : ∃ c r, decDigits u = c :: r ∧ c.toNat ≠ 48 := by
  induction u using Nat.strongRecOn with
  | _ u ih =>
    by_cases h : u < 10
    · refine ⟨_, _, decDigits_one h, ?_⟩
      rw [byte_of h]; omega
    · obtain ⟨c, r, e, hc⟩ := ih (u / 10) (by omega) (by omega)
      exact ⟨c, r ++ [UInt8.ofNat (48 + u % 10)], by rw [dec_big h, e]; rfl, hc⟩

theorem dec_len_le (u : Nat) (h : u ≤ 9223372036854775808) : (decDigits u).length ≤ 19 := by
  rw [decDigits_length]
  rcases Nat.lt_or_ge 19 (nDigits u) with hlt | hge
  · exfalso
    have key : ∀ (k v : Nat), k < nDigits v → 10 ^ k ≤ v ∨ k = 0 := by
      intro k
      induction k with
      | zero => intro v _; exact .inr rfl
      | succ k ih =>
        intro v hv
        left
        by_cases hv10 : v < 10
        · rw [nDigits_small hv10] at hv; omega
        · rw [nDigits_big hv10] at hv
          rcases ih (v / 10) (by omega) with h1 | h1
          · rw [Nat.pow_succ]; omega
          · subst h1; simp; omega
    rcases key 19 u hlt with h1 | h1
    · have : (10 : Nat) ^ 19 = 10000000000000000000 := by decide
      omega
    · cases h1
  · exact hge

theorem neg_tmod (u : Nat) : (-(u : Int)).tmod 10 = -((u % 10 : Nat) : Int) := by
  rw [Int.neg_tmod]; rfl
theorem neg_tdiv (u : Nat) : (-(u : Int)).tdiv 10 = -((u / 10 : Nat) : Int) := by
  rw [Int.neg_tdiv]; rfl

end Go.Proofs.Qxb6616816aDoor
