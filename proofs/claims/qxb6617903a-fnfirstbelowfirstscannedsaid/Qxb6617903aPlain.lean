/-
  The plain laws of the least tree: the first slot that is low enough, by a scan; a node is at most each of its leaves.
-/
import Derived.Test.Qxb6617903aRows
namespace Go.Proofs.Qxb6617903a

/-- The first of the m slots from a on whose leaf is at most key; -1 where none is. -/
def fsc (L : Nat → Int) (n : Nat) (key : Int) : Nat → Nat → Int
  | 0, _ => -1
  | m + 1, a => if L (n + a) ≤ key then (a : Int) else fsc L n key m (a + 1)

theorem fsc_range (L : Nat → Int) (n : Nat) (key : Int) (m : Nat) : ∀ a, fsc L n key m a = -1 ∨ ∃ i : Nat, a ≤ i ∧ i < a + m ∧ fsc L n key m a = i := by
  induction m with
  | zero => intro a; exact .inl rfl
  | succ m ih =>
    intro a
    simp only [fsc]
    by_cases h : L (n + a) ≤ key
    · rw [if_pos h]; exact .inr ⟨a, by omega, by omega, rfl⟩
    · rw [if_neg h]
      rcases ih (a + 1) with h1 | ⟨i, h1, h2, h3⟩
      · exact .inl h1
      · exact .inr ⟨i, by omega, by omega, h3⟩

theorem fsc_none {L : Nat → Int} {n : Nat} {key : Int} (m : Nat) : ∀ a, (∀ i, a ≤ i → i < a + m → key < L (n + i)) → fsc L n key m a = -1 := by
  induction m with
  | zero => intro a _; rfl
  | succ m ih =>
    intro a h
    have h0 := h a (Nat.le_refl _) (by omega)
    simp only [fsc]
    rw [if_neg (by omega)]
    exact ih (a + 1) (fun i h1 h2 => h i (by omega) (by omega))

theorem fsc_split (L : Nat → Int) (n : Nat) (key : Int) (m2 : Nat) (m1 : Nat) : ∀ a, fsc L n key (m1 + m2) a = if 0 ≤ fsc L n key m1 a then fsc L n key m1 a else fsc L n key m2 (a + m1) := by
  induction m1 with
  | zero => intro a; simp [fsc]
  | succ m ih =>
    intro a
    rw [show m + 1 + m2 = (m + m2) + 1 by omega]
    simp only [fsc]
    by_cases h : L (n + a) ≤ key
    · simp only [if_pos h]; rw [if_pos (by omega)]
    · simp only [if_neg h]
      rw [ih (a + 1), show a + 1 + m = a + (m + 1) by omega]

/-- What firstBelow answers at the slots lo .. hi - 1. -/
def ans (L : Nat → Int) (n : Nat) (key frm : Int) (lo hi : Nat) : Int := fsc L n key (hi - max lo frm.toNat) (max lo frm.toNat)

theorem ans_range (L : Nat → Int) (n : Nat) (key frm : Int) (lo hi : Nat) : -1 ≤ ans L n key frm lo hi ∧ (ans L n key frm lo hi : Int) ≤ hi := by
  unfold ans
  rcases fsc_range L n key (hi - max lo frm.toNat) (max lo frm.toNat) with h | ⟨i, h1, h2, h3⟩ <;> omega

theorem ans_past {L : Nat → Int} {n : Nat} {key frm : Int} {lo hi : Nat} (h : (hi : Int) ≤ frm) : ans L n key frm lo hi = -1 := by
  unfold ans
  rw [show hi - max lo frm.toNat = 0 by omega]
  rfl

theorem ans_none {L : Nat → Int} {n : Nat} {key frm : Int} {lo hi : Nat} (h : ∀ i, lo ≤ i → i < hi → key < L (n + i)) : ans L n key frm lo hi = -1 := by
  unfold ans
  exact fsc_none _ _ (fun i h1 h2 => h i (by omega) (by omega))

theorem ans_leaf {L : Nat → Int} {n : Nat} {key frm : Int} {lo : Nat} (h : frm < (lo : Int) + 1) (hk : L (n + lo) ≤ key) : ans L n key frm lo (lo + 1) = lo := by
  unfold ans
  rw [show max lo frm.toNat = lo by omega, show lo + 1 - lo = 0 + 1 by omega]
  simp only [fsc]
  rw [if_pos hk]

theorem ans_parts (L : Nat → Int) (n : Nat) (key frm : Int) {lo mid hi : Nat} (h1 : lo ≤ mid) (h2 : mid ≤ hi) :
    ans L n key frm lo hi = if 0 ≤ ans L n key frm lo mid then ans L n key frm lo mid else ans L n key frm mid hi := by
  unfold ans
  rcases Nat.le_total (max lo frm.toNat) mid with h | h
  · have e := fsc_split L n key (hi - mid) (mid - max lo frm.toNat) (max lo frm.toNat)
    rw [show mid - max lo frm.toNat + (hi - mid) = hi - max lo frm.toNat by omega, show max lo frm.toNat + (mid - max lo frm.toNat) = mid by omega] at e
    rw [show max mid frm.toNat = mid by omega]
    exact e
  · rw [show mid - max lo frm.toNat = 0 by omega]
    have e : fsc L n key 0 (max lo frm.toNat) = -1 := rfl
    rw [if_neg (by omega)]
    rw [show max mid frm.toNat = max lo frm.toNat by omega]

/-- A tree: no node is above its children. -/
def Tree (L : Nat → Int) (n : Nat) : Prop := ∀ j, 1 ≤ j → j < n → L j ≤ L (2 * j) ∧ L j ≤ L (2 * j + 1)

theorem double (k h : Nat) : 2 * k * 2 ^ h = k * 2 ^ (h + 1) := by rw [Nat.pow_succ, Nat.mul_comm 2 k, Nat.mul_assoc, Nat.mul_comm 2]
theorem double1 (k h : Nat) : (2 * k + 1) * 2 ^ h = k * 2 ^ (h + 1) + 2 ^ h := by rw [Nat.succ_mul, double]

theorem inner {n k lo h : Nat} (hk : k * 2 ^ (h + 1) = n + lo) (hh : lo + 2 ^ (h + 1) ≤ n) : k < n := by
  have hp : 0 < 2 ^ h := Nat.two_pow_pos h
  rw [Nat.pow_succ] at hk hh
  rcases Nat.lt_or_ge k n with h1 | h1
  · exact h1
  · have : n * (2 ^ h * 2) ≤ k * (2 ^ h * 2) := Nat.mul_le_mul_right _ h1
    have h3 : n * 2 ≤ n * (2 ^ h * 2) := Nat.mul_le_mul_left _ (by omega)
    omega

theorem leaf_ge {L : Nat → Int} {n : Nat} (ht : Tree L n) (h : Nat) : ∀ k lo, 1 ≤ k → k * 2 ^ h = n + lo → lo + 2 ^ h ≤ n → ∀ i, lo ≤ i → i < lo + 2 ^ h → L k ≤ L (n + i) := by
  induction h with
  | zero =>
    intro k lo _ hk _ i h1 h2
    simp only [Nat.pow_zero, Nat.mul_one] at *
    rw [show n + i = k by omega]
    exact Int.le_refl _
  | succ h ih =>
    intro k lo h1 hk hh i hi1 hi2
    have hkn := inner hk hh
    obtain ⟨t1, t2⟩ := ht k h1 hkn
    have e : 2 ^ (h + 1) = 2 ^ h + 2 ^ h := by rw [Nat.pow_succ]; omega
    rcases Nat.lt_or_ge i (lo + 2 ^ h) with hl | hg
    · exact Int.le_trans t1 (ih (2 * k) lo (by omega) (by rw [double]; exact hk) (by omega) i hi1 hl)
    · exact Int.le_trans t2 (ih (2 * k + 1) (lo + 2 ^ h) (by omega) (by rw [double1]; omega) (by omega) i hg (by omega))

theorem ans_above {L : Nat → Int} {n : Nat} (ht : Tree L n) {h k lo : Nat} {key frm : Int} (h1 : 1 ≤ k) (hk : k * 2 ^ h = n + lo) (hh : lo + 2 ^ h ≤ n) (hl : key < L k) : ans L n key frm lo (lo + 2 ^ h) = -1 :=
  ans_none (fun i a b => Int.lt_of_lt_of_le hl (leaf_ge ht h k lo h1 hk hh i a b))

theorem node_lt {n k lo h : Nat} (hk : k * 2 ^ h = n + lo) (hh : lo + 2 ^ h ≤ n) : k < 2 * n := by
  have hp : 0 < 2 ^ h := Nat.two_pow_pos h
  rcases Nat.lt_or_ge k (2 * n) with h1 | h1
  · exact h1
  · have : 2 * n * 1 ≤ k * 2 ^ h := Nat.mul_le_mul h1 hp
    omega

end Go.Proofs.Qxb6617903a
