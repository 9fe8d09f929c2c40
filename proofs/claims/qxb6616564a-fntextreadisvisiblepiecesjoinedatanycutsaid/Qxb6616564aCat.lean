/-
  Plain laws of joined pieces; a slice of pieces as a row of cells.
-/
import Derived.Test.Qxb6616564aPieces
namespace Go.Proofs.Qxb6616564a
open Go.RowKit

theorem cat_add (vs : Nat → ByteArray) (q m : Nat) : cat vs (q + m) = cat vs q ++ cat (fun j => vs (q + j)) m := by
  induction m with
  | zero => simp [cat]
  | succ m ih => rw [← Nat.add_assoc]; simp [cat, ih]
theorem cat_ext {vs us : Nat → ByteArray} {n : Nat} (h : ∀ j, j < n → vs j = us j) : cat vs n = cat us n := by
  induction n with
  | zero => rfl
  | succ n ih => simp only [cat]; rw [ih (fun j hj => h j (by omega)), h n (by omega)]

theorem catB_toList (vs : Nat → ByteArray) (n : Nat) : (catB vs n).toList = cat vs n := by rw [ByteArray.toList_eq]; simp [catB]
theorem catB_size (vs : Nat → ByteArray) (n : Nat) : (catB vs n).size = tot vs n := by rw [← cat_length]; exact List.size_toArray
theorem catB_append (l m : List UInt8) : (⟨(l ++ m).toArray⟩ : ByteArray) = ⟨l.toArray⟩ ++ ⟨m.toArray⟩ := (ByteArray.mk_append_mk l m).symm

/-- The cut of law 3. -/
theorem catB_cut (vs : Nat → ByteArray) {k n : Nat} (h : k ≤ n) : catB vs n = catB vs k ++ catB (fun j => vs (k + j)) (n - k) := by
  have e := cat_add vs k (n - k)
  rw [Nat.add_sub_cancel' h] at e
  unfold catB
  rw [e, catB_append]

/-- A piece in the middle. -/
theorem catB_mid (vs : Nat → ByteArray) {q n : Nat} (h : q < n) : catB vs n = catB vs q ++ (vs q ++ catB (fun j => vs (q + 1 + j)) (n - (q + 1))) := by
  rw [catB_cut vs (k := q + 1) h]
  have e : catB vs (q + 1) = catB vs q ++ vs q := by
    unfold catB
    simp only [cat]
    rw [catB_append]
  rw [e, ByteArray.append_assoc]

theorem mid_piece (vs : Nat → ByteArray) {q n : Nat} (h : q < n) : (catB vs n).extract (tot vs q) (tot vs q + (vs q).size) = vs q := by
  rw [catB_mid vs h]
  show (catB vs q ++ (vs q ++ catB (fun j => vs (q + 1 + j)) (n - (q + 1)))).extract (tot vs q + 0) (tot vs q + (vs q).size) = vs q
  rw [ByteArray.extract_append_size_add' (catB_size vs q).symm]
  exact ByteArray.extract_append_eq_left rfl
theorem mid_before (vs : Nat → ByteArray) {q n : Nat} (h : q < n) : (catB vs n).extract 0 (tot vs q) = catB vs q := by
  rw [catB_mid vs h]
  exact ByteArray.extract_append_eq_left (catB_size vs q).symm
theorem mid_after (vs : Nat → ByteArray) {q n : Nat} (h : q < n) : (catB vs n).extract (tot vs q + (vs q).size) (catB vs n).size = catB (fun j => vs (q + 1 + j)) (n - (q + 1)) := by
  rw [catB_mid vs h, ← ByteArray.append_assoc]
  exact ByteArray.extract_append_eq_right (by rw [ByteArray.size_append, catB_size]) (by rw [ByteArray.size_append])

/-- One piece deleted. -/
def upd (dv : Nat → Bool) (q j : Nat) : Bool := if j = q then true else dv j
theorem upd_same (dv : Nat → Bool) (q : Nat) : upd dv q q = true := by simp [upd]
theorem upd_other (dv : Nat → Bool) {q j : Nat} (h : j ≠ q) : upd dv q j = dv j := by simp [upd, h]

theorem del_eq (sv : Nat → ByteArray) (dv : Nat → Bool) {q n : Nat} (h : q < n) :
    catB (vis sv (upd dv q)) n = (catB (vis sv dv) n).extract 0 (tot (vis sv dv) q) ++ (catB (vis sv dv) n).extract (tot (vis sv dv) q + (vis sv dv q).size) (catB (vis sv dv) n).size := by
  rw [mid_before _ h, mid_after _ h, catB_mid (vis sv (upd dv q)) h, vis_t (upd_same dv q)]
  have e1 : catB (vis sv (upd dv q)) q = catB (vis sv dv) q := by
    unfold catB
    rw [cat_ext (us := vis sv dv) (fun j hj => by unfold vis; rw [upd_other dv (show j ≠ q by omega)])]
  have e2 : catB (fun j => vis sv (upd dv q) (q + 1 + j)) (n - (q + 1)) = catB (fun j => vis sv dv (q + 1 + j)) (n - (q + 1)) := by
    unfold catB
    rw [cat_ext (us := fun j => vis sv dv (q + 1 + j)) (fun j hj => by simp only [vis]; rw [upd_other dv (show q + 1 + j ≠ q by omega)])]
  rw [e1, e2]
  have e3 : ∀ x : ByteArray, (⟨#[]⟩ : ByteArray) ++ x = x := fun x => ByteArray.empty_append
  rw [e3]

/-- The row of cells. -/
def pc (sv : Nat → ByteArray) (dv : Nat → Bool) : Nat → List Value
  | 0 => []
  | k + 1 => pc sv dv k ++ [.string (sv k), .bool (dv k)]
theorem pc_length (sv : Nat → ByteArray) (dv : Nat → Bool) (n : Nat) : (pc sv dv n).length = n * 2 := by
  induction n with
  | zero => rfl
  | succ n ih => simp [pc, ih]; omega
theorem pc_one (sv : Nat → ByteArray) (dv : Nat → Bool) (n : Nat) : ∀ v ∈ pc sv dv n, v.oneCell' = true := by
  induction n with
  | zero => intro v hv; cases hv
  | succ n ih =>
    intro v hv
    rcases List.mem_append.1 hv with h | h
    · exact ih v h
    · simp at h; rcases h with rfl | rfl <;> rfl
theorem pc_get (sv : Nat → ByteArray) (dv : Nat → Bool) {n i : Nat} (h : i < n) : (pc sv dv n)[i * 2]? = some (.string (sv i)) ∧ (pc sv dv n)[i * 2 + 1]? = some (.bool (dv i)) := by
  induction n with
  | zero => omega
  | succ n ih =>
    have hl := pc_length sv dv n
    by_cases e : i = n
    · subst e
      simp only [pc]
      rw [List.getElem?_append_right (by omega), List.getElem?_append_right (by omega), hl]
      simp
    · have := ih (by omega)
      simp only [pc]
      rw [List.getElem?_append_left (by omega), List.getElem?_append_left (by omega)]
      exact this
theorem pc_inv (sv : Nat → ByteArray) (dv : Nat → Bool) {n j : Nat} {v : Value} (h : (pc sv dv n)[j]? = some v) : ∃ i, i < n ∧ ((j = i * 2 ∧ v = .string (sv i)) ∨ (j = i * 2 + 1 ∧ v = .bool (dv i))) := by
  have hj : j < n * 2 := by have := (List.getElem?_eq_some_iff.1 h).1; rw [pc_length] at this; exact this
  refine ⟨j / 2, by omega, ?_⟩
  obtain ⟨g1, g2⟩ := pc_get sv dv (n := n) (i := j / 2) (by omega)
  rcases Nat.mod_two_eq_zero_or_one j with e | e
  · have e' : j / 2 * 2 = j := by omega
    rw [e', h] at g1
    exact .inl ⟨e'.symm, Option.some.inj g1⟩
  · have e' : j / 2 * 2 + 1 = j := by omega
    rw [e', h] at g2
    exact .inr ⟨e'.symm, Option.some.inj g2⟩

end Go.Proofs.Qxb6616564a
