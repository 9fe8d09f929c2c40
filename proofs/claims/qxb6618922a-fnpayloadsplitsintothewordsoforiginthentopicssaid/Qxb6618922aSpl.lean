/-
  Plain: a list of bytes cut at every space. Nothing of the dump.
-/
import Derived.PlainAid
namespace Go.Proofs.Qxb6618922a.Pay

def spl : List UInt8 → List (List UInt8)
  | [] => [[]]
  | c :: r => if c = 32 then [] :: spl r else
    match spl r with
    | h :: t => (c :: h) :: t
    | [] => [[c]]

theorem spl_ne (l : List UInt8) : spl l ≠ [] := by
  cases l with
  | nil => simp [spl]
  | cons c r => unfold spl; split
                · simp
                · split <;> simp

theorem spl_cons {l : List UInt8} : ∃ h t, spl l = h :: t := by
  cases e : spl l with
  | nil => exact absurd e (spl_ne l)
  | cons h t => exact ⟨h, t, rfl⟩

theorem spl_app (a b : List UInt8) : spl (a ++ 32 :: b) = spl a ++ spl b := by
  induction a with
  | nil => simp [spl]
  | cons c r ih =>
    obtain ⟨h, t, e⟩ := spl_cons (l := r)
    simp only [List.cons_append, spl, ih, e]
    split <;> simp

theorem spl_plain (a : List UInt8) (h : ∀ c ∈ a, c ≠ 32) : spl a = [a] := by
  induction a with
  | nil => rfl
  | cons c r ih =>
    have hc : c ≠ 32 := h c (by simp)
    simp only [spl, if_neg hc, ih (fun x hx => h x (by simp [hx]))]

theorem spl_len (l : List UInt8) : (spl l).length ≤ l.length + 1 := by
  induction l with
  | nil => simp [spl]
  | cons c r ih =>
    obtain ⟨h, t, e⟩ := spl_cons (l := r)
    rw [e] at ih
    simp only [spl, e]
    split <;> simp_all <;> omega

/-- One cut: the text behind 'st', no space up to k, a space at k. -/
theorem spl_step (l : List UInt8) (st k : Nat) (hst : st ≤ k) (hk : k < l.length) (h32 : l[k] = 32) (hno : ∀ c ∈ (l.take k).drop st, c ≠ 32) :
    spl (l.drop st) = (l.take k).drop st :: spl (l.drop (k + 1)) := by
  have e : l.drop st = (l.take k).drop st ++ 32 :: l.drop (k + 1) := by
    have h1 : l = l.take k ++ l[k] :: l.drop (k + 1) := by rw [← List.drop_eq_getElem_cons hk, List.take_append_drop]
    have h2 : l.drop st = (l.take k ++ l[k] :: l.drop (k + 1)).drop st := by rw [← h1]
    rw [h2, List.drop_append_of_le_length (by simp; omega), h32]
  rw [e, spl_app, spl_plain _ hno]; rfl

theorem no_step (l : List UInt8) (st k : Nat) (hst : st ≤ k) (hk : k < l.length) (h32 : l[k] ≠ 32) (hno : ∀ c ∈ (l.take k).drop st, c ≠ 32) :
    ∀ c ∈ (l.take (k + 1)).drop st, c ≠ 32 := by
  rw [List.take_succ_eq_append_getElem hk, List.drop_append_of_le_length (by simp; omega)]
  intro c hc
  rcases List.mem_append.1 hc with h | h
  · exact hno c h
  · simp at h; subst h; exact h32

theorem no_start (l : List UInt8) (k : Nat) : ∀ c ∈ (l.take k).drop k, c ≠ 32 := by
  intro c hc
  rw [List.drop_eq_nil_of_le (by simp; omega)] at hc
  cases hc

end Go.Proofs.Qxb6618922a.Pay
