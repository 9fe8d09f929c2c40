/-
  The walks: the guard (12), firstBelow (16), ZZFirstBelow (13).
-/
import Derived.Test.Qxb6617903aPlain
import Derived.WalkKit
import Derived.ProofKit
import Derived.Below
namespace Go.Proofs.Qxb6617903a
open Go.RowKit

theorem by12 (a : Option Addr) (n c : Nat) (k lo hi frm key : Int) (w : World) (hn : n ≤ maxLen) :
    Calls Try.prog 12 #[.slice a n c, .int .i64 k, .int .i64 lo, .int .i64 hi, .int .i64 frm, .int .i64 key] w fun e w' => (e = .returned (.bool false) ∧ w = w') ∨ (e = .returned (.bool true) ∧ w = w') := by
  unfold maxLen at hn
  by_cases h : n ≤ 1048576
  · go_enter Try.func12, Try.ntmps12
    go_wp2
    go_ret
    exact .inr ⟨rfl, rfl⟩
  · go_enter Try.func12, Try.ntmps12
    go_wp2
    go_ret
    exact .inl ⟨rfl, rfl⟩

set_option maxHeartbeats 2000000 in
theorem fb16 (T g n cap : Nat) (L : Nat → Int) (frm key : Int) (w : World) (hn : n ≤ 65536) (hT : w.cell? ⟨T, 0, none⟩ = some (.slice (some ⟨g, 0, none⟩) (2 * n) cap))
    (hc : Hid (∀ j, j < 2 * n → w.cell? ⟨g, j, none⟩ = some (.int .i64 (L j)))) (ht : Hid (Tree L n)) (h : Nat) :
    ∀ (k lo hi : Nat) (K : Int), K = k → 1 ≤ k → k * 2 ^ h = n + lo → hi = lo + 2 ^ h → hi ≤ n →
    Calls Try.prog 16 #[.pointer (some ⟨T, 0, none⟩), .int .i64 K, .int .i64 lo, .int .i64 hi, .int .i64 frm, .int .i64 key] w fun e w' => e = .returned (.int .i64 (ans L n key frm lo hi)) ∧ w = w' := by
  induction h with
  | zero =>
    intro k lo hi K hK h1 hk hh hhi
    by_cases hp : (hi : Int) ≤ frm
    · rw [ans_past hp]
      clear hk hh
      go_enter Try.func16, Try.ntmps16
      go_wp2_with fail
      go_ret
      exact ⟨rfl, rfl⟩
    · have hkl := node_lt hk (by omega : lo + 2 ^ 0 ≤ n)
      have hck := hc.out k hkl
      by_cases hl : key < L k
      · rw [hh, ans_above ht.out h1 hk (by omega) hl]
        rw [← hh]
        subst hK
        clear hk hh
        go_enter Try.func16, Try.ntmps16
        go_wp2_with fail
        go_ret
        exact ⟨rfl, rfl⟩
      · simp only [Nat.pow_zero, Nat.mul_one] at hk hh
        have ha : ans L n key frm lo (lo + 1) = lo := ans_leaf (by omega) (by rw [← hk]; omega)
        rw [← hh] at ha
        rw [ha]
        have hone : (hi : Int) - (lo : Int) = 1 := by omega
        subst hK
        clear hk hh ha
        go_enter Try.func16, Try.ntmps16
        go_wp2_with fail
        go_ret
        exact ⟨rfl, rfl⟩
  | succ h ih =>
    intro k lo hi K hK h1 hk hh hhi
    by_cases hp : (hi : Int) ≤ frm
    · rw [ans_past hp]
      clear hk hh ih
      go_enter Try.func16, Try.ntmps16
      go_wp2_with fail
      go_ret
      exact ⟨rfl, rfl⟩
    · have hkl := node_lt hk (by omega : lo + 2 ^ (h + 1) ≤ n)
      have hck := hc.out k hkl
      by_cases hl : key < L k
      · have ha := ans_above (frm := frm) ht.out h1 hk (by omega) hl
        rw [← hh] at ha
        rw [ha]
        subst hK
        clear hk hh ih ha
        go_enter Try.func16, Try.ntmps16
        go_wp2_with fail
        go_ret
        exact ⟨rfl, rfl⟩
      · obtain ⟨mid, hm⟩ : ∃ mid, mid = lo + 2 ^ h := ⟨_, rfl⟩
        have e : 2 ^ (h + 1) = 2 ^ h + 2 ^ h := by rw [Nat.pow_succ]; omega
        have hp2 : 0 < 2 ^ h := Nat.two_pow_pos h
        have C1 := ih (2 * k) lo mid (2 * (k : Int)) (by omega) (by omega) (by rw [double]; exact hk) hm (by omega)
        have C2 := ih (2 * k + 1) mid hi (2 * (k : Int) + 1) (by omega) (by omega) (by rw [double1]; omega) (by omega) hhi
        have hmid : ((lo : Int) + (hi : Int)) / 2 = (mid : Int) := by omega
        have hne : ¬ ((hi : Int) - (lo : Int) = 1) := by omega
        have hlm : lo ≤ mid := by omega
        have hmh : mid ≤ hi := by omega
        have HP : Hid (ans L n key frm lo hi = if 0 ≤ ans L n key frm lo mid then ans L n key frm lo mid else ans L n key frm mid hi) := ans_parts L n key frm hlm hmh
        obtain ⟨r1, r2⟩ := ans_range L n key frm lo mid
        generalize ans L n key frm lo mid = R1 at C1 HP r1 r2
        generalize ans L n key frm mid hi = R2 at C2 HP
        generalize ans L n key frm lo hi = R at HP
        subst hK
        clear hk hh ih e hm hp2
        go_enter Try.func16, Try.ntmps16
        go_wp2_with fail
        refine C1.mono ?_
        rintro e w' ⟨rfl, rfl⟩
        by_cases hR : 0 ≤ R1
        · have := HP.out
          rw [if_pos hR] at this
          subst this
          clear HP
          go_wp2_with fail
          go_ret
          exact ⟨rfl, rfl⟩
        · have := HP.out
          rw [if_neg hR] at this
          subst this
          clear HP
          go_wp2_with fail
          refine C2.mono ?_
          rintro e w' ⟨rfl, rfl⟩
          go_wp2_with fail
          go_ret
          exact ⟨rfl, rfl⟩

end Go.Proofs.Qxb6617903a
