/-
  The size guards of the payload laws: zzBytes (9, 11).
-/
import Derived.Test.Qxb6618922aProg
import Derived.WalkKit
import Derived.WalkLawsBesides
import Derived.WalkSpells
import Derived.ProofKit
import Derived.Deep.QuietTactic
import Derived.BigQuiet
namespace Go.Proofs.Qxb6618922a.Pay
open Go.RowKit

/-- What a walk is told of a slice of strings: its n elements are sv 0 .. sv (n-1). -/
def IsS (w : World) (a : Option Addr) (n : Nat) (sv : Nat → ByteArray) : Prop :=
  n = 0 ∨ ∃ b off, a = some ⟨b, off, none⟩ ∧ b < w.heap.size ∧ ∀ j, j < n → w.cell? ⟨b, off + j, none⟩ = some (.string (sv j))

def Small (n : Nat) (sv : Nat → ByteArray) : Prop := ∀ j, j < n → (sv j).size ≤ 1048576
theorem Small.zero (sv : Nat → ByteArray) : Small 0 sv := fun _ h => absurd h (Nat.not_lt_zero _)
theorem Small.succ {k : Nat} {sv : Nat → ByteArray} (h : Small k sv) (hk : ((sv k).size : Int) ≤ 1048576) : Small (k + 1) sv := fun j hj => by
  by_cases e : j = k
  · subst e; omega
  · exact h j (by omega)

set_option maxHeartbeats 1000000 in
theorem by9 (o : ByteArray) (a : Option Addr) (n c : Nat) (sv : Nat → ByteArray) (k0 : Int) (w : World) (ho : o.size ≤ maxLen) (hn : n ≤ maxLen) (hs : IsS w a n sv) (hm : ∀ j, j < n → (sv j).size ≤ maxLen) :
    Calls Try.prog 9 #[.string o, .slice a n c, .int .i64 k0] w fun e w' => (e = .returned (.bool false) ∧ w = w') ∨ (e = .returned (.bool true) ∧ w = w' ∧ Small n sv) := by
  unfold maxLen at ho hn hm
  rcases hs with hz | ⟨b, off, rfl, -, hc⟩
  · subst hz
    go_enter Try.func9, Try.ntmps9
    go_wp2
    · go_ret; exact Or.inl ⟨rfl, rfl⟩
    · go_loop [7, 8] (fun _ i => i = .int .i64 0) (fun _ _ => 0)
      case atStart => rfl
      case round =>
        subst hrel
        go_wp2
        go_ret; exact Or.inr ⟨rfl, rfl, Small.zero sv⟩
  · go_enter Try.func9, Try.ntmps9
    go_wp2
    any_goals (go_ret; exact Or.inl ⟨rfl, rfl⟩)
    go_loop [7, 8] (fun s i => ∃ (k : Nat) (z : Int), k ≤ n ∧ i = .int .i64 k ∧ s = .int .i64 z ∧ 0 ≤ z ∧ z ≤ 1048576 ∧ Small k sv) (fun _ i => n - (intOf i).toNat)
    case atStart => exact ⟨0, _, Nat.zero_le _, rfl, rfl, by omega, by omega, Small.zero sv⟩
    case round =>
      obtain ⟨k, z, hk, rfl, rfl, hz0, hz1, HS⟩ := hrel
      have HS' : Hid (Small k sv) := HS
      clear HS
      by_cases hlt : k < n
      · have g := hc k hlt
        have gm := hm k hlt
        clear hc hm
        go_wp2
        · go_ret; exact Or.inl ⟨rfl, rfl⟩
        · go_ret; exact Or.inl ⟨rfl, rfl⟩
        · have h1 : ((sv k).size : Int) ≤ 1048576 := by omega
          go_round
          case rel => exact ⟨k + 1, _, by omega, by go_num, rfl, by omega, by omega, HS'.out.succ h1⟩
          case measure => simp [intOf]; omega
      · clear hc hm
        have e : k = n := by omega
        subst e
        go_wp2
        go_ret; exact Or.inr ⟨rfl, rfl, HS'.out⟩

set_option maxHeartbeats 1000000 in
theorem by11 (o : ByteArray) (a : Option Addr) (n c : Nat) (sv : Nat → ByteArray) (w : World) (ho : o.size ≤ maxLen) (hn : n ≤ maxLen) (hs : IsS w a n sv) (hm : ∀ j, j < n → (sv j).size ≤ maxLen) :
    Calls Try.prog 11 #[.string o, .slice a n c] w fun e w' => (e = .returned (.bool false) ∧ w = w') ∨ (e = .returned (.bool true) ∧ w = w' ∧ Small n sv) := by
  unfold maxLen at ho hn hm
  rcases hs with hz | ⟨b, off, rfl, -, hc⟩
  · subst hz
    go_enter Try.func11, Try.ntmps11
    go_wp2
    · go_ret; exact Or.inl ⟨rfl, rfl⟩
    · go_loop [5, 6] (fun _ i => i = .int .i64 0) (fun _ _ => 0)
      case atStart => rfl
      case round =>
        subst hrel
        go_wp2
        go_ret; exact Or.inr ⟨rfl, rfl, Small.zero sv⟩
  · go_enter Try.func11, Try.ntmps11
    go_wp2
    any_goals (go_ret; exact Or.inl ⟨rfl, rfl⟩)
    go_loop [5, 6] (fun s i => ∃ (k : Nat) (z : Int), k ≤ n ∧ i = .int .i64 k ∧ s = .int .i64 z ∧ 0 ≤ z ∧ z ≤ 1048576 ∧ Small k sv) (fun _ i => n - (intOf i).toNat)
    case atStart => exact ⟨0, _, Nat.zero_le _, rfl, rfl, by omega, by omega, Small.zero sv⟩
    case round =>
      obtain ⟨k, z, hk, rfl, rfl, hz0, hz1, HS⟩ := hrel
      have HS' : Hid (Small k sv) := HS
      clear HS
      by_cases hlt : k < n
      · have g := hc k hlt
        have gm := hm k hlt
        clear hc hm
        go_wp2
        · go_ret; exact Or.inl ⟨rfl, rfl⟩
        · go_ret; exact Or.inl ⟨rfl, rfl⟩
        · have h1 : ((sv k).size : Int) ≤ 1048576 := by omega
          go_round
          case rel => exact ⟨k + 1, _, by omega, by go_num, rfl, by omega, by omega, HS'.out.succ h1⟩
          case measure => simp [intOf]; omega
      · clear hc hm
        have e : k = n := by omega
        subst e
        go_wp2
        go_ret; exact Or.inr ⟨rfl, rfl, HS'.out⟩

end Go.Proofs.Qxb6618922a.Pay
