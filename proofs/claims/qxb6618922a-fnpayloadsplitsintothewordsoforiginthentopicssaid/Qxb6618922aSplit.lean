/-
  zzSplitSpaces (12), zzSameStrings (13).
-/
import Derived.Test.Qxb6618922aPayLaw
import Derived.Test.Qxb6618922aSpl
namespace Go.Proofs.Qxb6618922a.Pay
open Go.RowKit

def bs (l : List UInt8) : ByteArray := ⟨l.toArray⟩
def rowOf (L : List (List UInt8)) : List Value := L.map fun l => Value.string (bs l)
theorem rowOf_snoc (L : List (List UInt8)) (l : List UInt8) : rowOf (L ++ [l]) = rowOf L ++ [.string (bs l)] := by simp [rowOf]
theorem rowOf_append (L M : List (List UInt8)) : rowOf (L ++ M) = rowOf L ++ rowOf M := by simp [rowOf]
theorem rowOf_one (L : List (List UInt8)) : ∀ u ∈ rowOf L, u.oneCell' = true := by
  intro u hu; obtain ⟨x, _, rfl⟩ := List.mem_map.1 hu; rfl
theorem extract_bs (s : ByteArray) (a b : Nat) : s.extract a b = bs ((s.data.toList.take b).drop a) := by
  apply ByteArray.ext
  apply Array.toList_inj.1
  simp [bs, List.drop_take, Array.toList_extract]
theorem extract_end_bs (s : ByteArray) (a : Nat) : s.extract a s.size = bs (s.data.toList.drop a) := by
  rw [extract_bs, List.take_of_length_le (by simp)]

/-- The loop's relation, told of plain numbers. -/
def SR (s : ByteArray) (w wr : World) (v : Value) (k q : Nat) : Prop :=
  ∃ D : List (List UInt8), wr.ownsRow w.heap.size 9 1 v D.length (rowOf D) ∧ Below w.heap.size w wr ∧ D.length ≤ q ∧ q ≤ k ∧ k ≤ s.size ∧ D ++ spl (s.data.toList.drop q) = spl s.data.toList ∧ ∀ c ∈ (s.data.toList.take k).drop q, c ≠ 32

theorem SR.start (s : ByteArray) (w : World) : SR s w w (.slice none 0 0) 0 0 :=
  ⟨[], World.ownsRow_nil _ _ _ _, Below.refl _ _, Nat.le_refl _, Nat.le_refl _, Nat.zero_le _, rfl, no_start _ _⟩

theorem at_k (s : ByteArray) (k : Nat) (h : k < s.size) : s.data.toList[k]'(by simpa using h) = s[k] := rfl

theorem SR.skip {s : ByteArray} {w wr : World} {v : Value} {k q : Nat} (h : SR s w wr v k q) (hk : k < s.size) (h32 : ¬ (s[k].toNat : Int) = 32) : SR s w wr v (k + 1) q := by
  obtain ⟨D, h1, h2, h3, h4, h5, h6, h7⟩ := h
  refine ⟨D, h1, h2, h3, by omega, by omega, h6, no_step _ q k h4 (by simpa using hk) ?_ h7⟩
  rw [at_k s k hk]
  intro e; rw [e] at h32; exact h32 rfl

theorem SR.cut {s : ByteArray} {w wr w1 : World} {v v' : Value} {k q : Nat} {D : List (List UInt8)} (hk : k < s.size) (h32 : (s[k].toNat : Int) = 32)
    (h2 : Below w.heap.size w wr) (h3 : D.length ≤ q) (h4 : q ≤ k) (h6 : D ++ spl (s.data.toList.drop q) = spl s.data.toList) (h7 : ∀ c ∈ (s.data.toList.take k).drop q, c ≠ 32)
    (hown : wr.ownsRow w.heap.size 9 1 v D.length (rowOf D))
    (hown' : w1.ownsRow w.heap.size 9 1 v' (D.length + 1) (rowOf D ++ [.string (s.extract q k)])) (hg : (wr.alloc (.cells #[.string (s.extract q k)] 9)).grownBy w1 v.ownBlock) :
    SR s w w1 v' (k + 1) (k + 1) := by
  have e32 : s.data.toList[k]'(by simpa using hk) = 32 := by
    rw [at_k s k hk]
    apply UInt8.toNat_inj.1
    have : s[k].toNat = 32 := by omega
    rw [this]; rfl
  refine ⟨D ++ [(s.data.toList.take k).drop q], ?_, ?_, by simp; omega, by omega, by omega, ?_, no_start _ _⟩
  · rw [rowOf_snoc, ← extract_bs, List.length_append]; exact hown'
  · refine (h2.alloc h2.size _).grown hg (by have := h2.size; simp; omega) ?_
    intro g hgv
    rcases hown.2 with ⟨rfl, _⟩ | ⟨g', cap, cur, rfl, hb, _⟩
    · simp [Value.ownBlock] at hgv
    · simp [Value.ownBlock] at hgv; omega
  · rw [← h6, spl_step _ q k h4 (by simpa using hk) e32 h7]; simp

theorem SR.stop {s : ByteArray} {w wr w1 : World} {v v' : Value} {q : Nat} {D : List (List UInt8)}
    (h2 : Below w.heap.size w wr) (h6 : D ++ spl (s.data.toList.drop q) = spl s.data.toList) (h7 : ∀ c ∈ (s.data.toList.take s.size).drop q, c ≠ 32)
    (hown : wr.ownsRow w.heap.size 9 1 v D.length (rowOf D))
    (hown' : w1.ownsRow w.heap.size 9 1 v' (D.length + 1) (rowOf D ++ [.string (s.extract q s.size)])) (hg : (wr.alloc (.cells #[.string (s.extract q s.size)] 9)).grownBy w1 v.ownBlock) :
    w1.ownsRow w.heap.size 9 1 v' (spl s.data.toList).length (rowOf (spl s.data.toList)) ∧ Below w.heap.size w w1 := by
  rw [List.take_of_length_le (by simp)] at h7
  have e : spl s.data.toList = D ++ [s.data.toList.drop q] := by rw [← h6, spl_plain _ h7]
  refine ⟨?_, ?_⟩
  · rw [e, rowOf_snoc, ← extract_end_bs, List.length_append]; exact hown'
  · refine (h2.alloc h2.size _).grown hg (by have := h2.size; simp; omega) ?_
    intro g hgv
    rcases hown.2 with ⟨rfl, _⟩ | ⟨g', cap, cur, rfl, hb, _⟩
    · simp [Value.ownBlock] at hgv
    · simp [Value.ownBlock] at hgv; omega

set_option maxHeartbeats 2000000 in
set_option maxRecDepth 100000 in
theorem split12 (s : ByteArray) (w : World) (hs : s.size ≤ 2000000) :
    Calls Try.prog 12 #[.string s] w fun e w' => ∃ g cap, e = .returned (.slice (some ⟨g, 0, none⟩) (spl s.data.toList).length cap) ∧
      w'.ownsRow w.heap.size 9 1 (.slice (some ⟨g, 0, none⟩) (spl s.data.toList).length cap) (spl s.data.toList).length (rowOf (spl s.data.toList)) ∧ Below w.heap.size w w' := by
  obtain ⟨i0, hi, hz0, hz1, hz2⟩ := info_parts info9
  go_enter Try.func12, Try.ntmps12
  go_wp2
  go_loopw [3, 4, 5] (fun v st i wr => ∃ k q : Nat, i = .int .i64 k ∧ st = .int .i64 q ∧ SR s w wr v k q) (fun _ _ i _ => s.size - (intOf i).toNat)
  case atStart => exact ⟨0, 0, rfl, rfl, SR.start s w⟩
  case round =>
    obtain ⟨k, q, rfl, rfl, hR⟩ := hrel
    have HR : Hid (SR s w wr u3 k q) := hR
    obtain ⟨D, hown, hbel, hDq, hqk, hks, h6, h7⟩ := hR
    have H6 : Hid (D ++ spl (s.data.toList.drop q) = spl s.data.toList) := h6
    have H7 : Hid (∀ c ∈ (s.data.toList.take k).drop q, c ≠ 32) := h7
    have hsz := hbel.size
    clear h6 h7
    by_cases hlt : k < s.size
    · go_wp2_with (at_builtin; refine wpList_append_own _ rfl _ _ 22 rfl w.heap.size 9 i0 _ 1 16 Try.underlying22 hi hz0 hz1 hz2 rfl (by decide) _ _ _ rfl (hown.alloc _) ⟨wr.heap.size, 0, none⟩ 1 1 [.string (s.extract q k)] rfl rfl (cell_one_new _ _ _) (by intro u hu; simp at hu; subst hu; rfl) (by unfold maxLen; omega) (by omega) (by simp; omega) ?_)
      · intro v' w1 hown' hgrow _
        have e32 : (s[k].toNat : Int) = 32 := by have h : ((s[k].toNat : Int) == 32) = true := by assumption
                                                 simpa using h
        have R := SR.cut hlt e32 hbel hDq hqk H6.out H7.out hown hown' hgrow
        clear hown hown' hgrow HR
        go_wp2
        go_roundw
        case rel => exact ⟨k + 1, k + 1, by go_num, by go_num, R⟩
        case measure => simp [intOf]; omega
      · have e32 : ¬ (s[k].toNat : Int) = 32 := by have h : ((s[k].toNat : Int) == 32) = false := by assumption
                                                   simpa using h
        have R := SR.skip HR.out hlt e32
        go_roundw
        case rel => exact ⟨k + 1, q, by go_num, rfl, R⟩
        case measure => simp [intOf]; omega
    · have e : k = s.size := by omega
      subst e
      go_wp2_with (at_builtin; refine wpList_append_own _ rfl _ _ 22 rfl w.heap.size 9 i0 _ 1 16 Try.underlying22 hi hz0 hz1 hz2 rfl (by decide) _ _ _ rfl (hown.alloc _) ⟨wr.heap.size, 0, none⟩ 1 1 [.string (s.extract q s.size)] rfl rfl (cell_one_new _ _ _) (by intro u hu; simp at hu; subst hu; rfl) (by unfold maxLen; omega) (by omega) (by simp; omega) ?_)
      intro v' w1 hown' hgrow _
      have R := SR.stop hbel H6.out H7.out hown hown' hgrow
      obtain ⟨hR1, hR2⟩ := R
      obtain ⟨g, cap, hv, -, -⟩ := hR1.form (by have := spl_ne s.data.toList; exact List.length_pos_iff.2 this)
      rw [hv] at hR1 ⊢
      clear hown hown' hgrow HR hv
      go_wp2
      go_ret
      exact ⟨g, cap, rfl, hR1, hR2⟩

set_option maxHeartbeats 2000000 in
set_option maxRecDepth 100000 in
theorem same13 (g1 g2 n c1 c2 : Nat) (sv : Nat → ByteArray) (w : World) (hn : n ≤ 4000000)
    (h1 : ∀ j, j < n → w.cell? ⟨g1, j, none⟩ = some (.string (sv j))) (h2 : ∀ j, j < n → w.cell? ⟨g2, j, none⟩ = some (.string (sv j))) :
    Calls Try.prog 13 #[.slice (some ⟨g1, 0, none⟩) n c1, .slice (some ⟨g2, 0, none⟩) n c2] w fun e w' => e = .returned (.bool true) ∧ Below w.heap.size w w' := by
  go_enter Try.func13, Try.ntmps13
  go_wp2
  go_loopw [5] (fun i wr => ∃ k nq : Nat, k ≤ n ∧ i = .int .i64 k ∧ wr = w.drewN nq) (fun i _ => n - (intOf i).toNat)
  case atStart => exact ⟨0, 0, Nat.zero_le _, rfl, rfl⟩
  case round =>
    obtain ⟨k, nq, hk, rfl, rfl⟩ := hrel
    by_cases hlt : k < n
    · have e1 := h1 k hlt
      have e2 := h2 k hlt
      have hl : (k : Int) < (n : Int) := by omega
      clear h1 h2
      go_wp2
      go_quiet (fail)
      go_wp2
      go_roundw
      case rel => exact ⟨k + 1, _, by omega, by go_num, rfl⟩
      case measure => simp [intOf]; omega
    · go_wp2
      go_ret
      exact ⟨rfl, below_drewN (Below.refl _ _) _⟩

end Go.Proofs.Qxb6618922a.Pay
