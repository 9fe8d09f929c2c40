/-
  The guards of the text laws: zzBytes (5, 12), zzTextTooBig (6), zzRuneCount (15).
-/
import Derived.Test.Qxb6616564aProg
import Derived.WalkKit
import Derived.WalkLawsBesides
import Derived.WalkSpells
import Derived.ProofKit
import Derived.Deep.QuietTactic
import Derived.BigQuiet
namespace Go.Proofs.Qxb6616564a
open Go.RowKit

/-- What a walk is told of a slice of pieces: its n elements are (sv j, dv j). -/
def IsP (w : World) (a : Option Addr) (n : Nat) (sv : Nat → ByteArray) (dv : Nat → Bool) : Prop :=
  n = 0 ∨ ∃ b off, a = some ⟨b, off, none⟩ ∧ b < w.heap.size ∧ ∀ j, j < n → w.cell? ⟨b, off + j * 2, none⟩ = some (.string (sv j)) ∧ w.cell? ⟨b, off + j * 2 + 1, none⟩ = some (.bool (dv j))

theorem cells27 : Try.prog.cellsOf 27 = 2 := by kernel_rfl

set_option maxHeartbeats 1000000 in
theorem by5 (a : Option Addr) (n c : Nat) (sv : Nat → ByteArray) (dv : Nat → Bool) (k0 : Int) (w : World) (hn : n ≤ maxLen) (hs : IsP w a n sv dv) (hm : ∀ j, j < n → (sv j).size ≤ maxLen) :
    Calls Try.prog 5 #[.slice a n c, .int .i64 k0] w fun e w' => (e = .returned (.bool false) ∧ w = w') ∨ (e = .returned (.bool true) ∧ w = w') := by
  unfold maxLen at hn hm
  rcases hs with hz | ⟨b, off, rfl, -, hc⟩
  · subst hz
    go_enter Try.func5, Try.ntmps5
    go_wp2
    go_loop [5, 6] (fun _ i => i = .int .i64 0) (fun _ _ => 0)
    case atStart => rfl
    case round =>
      subst hrel
      go_wp2
      go_ret; exact Or.inr ⟨rfl, rfl⟩
  · go_enter Try.func5, Try.ntmps5
    go_wp2
    any_goals (go_ret; exact Or.inl ⟨rfl, rfl⟩)
    go_loop [5, 6] (fun s i => ∃ (k : Nat) (z : Int), k ≤ n ∧ i = .int .i64 k ∧ s = .int .i64 z ∧ 0 ≤ z ∧ z ≤ 1048576) (fun _ i => n - (intOf i).toNat)
    case atStart => exact ⟨0, _, Nat.zero_le _, rfl, rfl, by omega, by omega⟩
    case round =>
      obtain ⟨k, z, hk, rfl, rfl, hz0, hz1⟩ := hrel
      by_cases hlt : k < n
      · have g := (hc k hlt).1
        have gm := hm k hlt
        clear hc hm
        go_wp2
        · go_ret; exact Or.inl ⟨rfl, rfl⟩
        · go_ret; exact Or.inl ⟨rfl, rfl⟩
        · go_round
          case rel => exact ⟨k + 1, _, by omega, by go_num, rfl, by omega, by omega⟩
          case measure => simp [intOf]; omega
      · clear hc hm
        go_wp2
        go_ret; exact Or.inr ⟨rfl, rfl⟩

set_option maxHeartbeats 1000000 in
theorem by12 (a : Option Addr) (n c : Nat) (sv : Nat → ByteArray) (dv : Nat → Bool) (k0 : Int) (w : World) (hn : n ≤ maxLen) (hs : IsP w a n sv dv) (hm : ∀ j, j < n → (sv j).size ≤ maxLen) :
    Calls Try.prog 12 #[.slice a n c, .int .i64 k0] w fun e w' => (e = .returned (.bool false) ∧ w = w') ∨ (e = .returned (.bool true) ∧ w = w') := by
  unfold maxLen at hn hm
  rcases hs with hz | ⟨b, off, rfl, -, hc⟩
  · subst hz
    go_enter Try.func12, Try.ntmps12
    go_wp2
    go_loop [5, 6] (fun _ i => i = .int .i64 0) (fun _ _ => 0)
    case atStart => rfl
    case round =>
      subst hrel
      go_wp2
      go_ret; exact Or.inr ⟨rfl, rfl⟩
  · go_enter Try.func12, Try.ntmps12
    go_wp2
    any_goals (go_ret; exact Or.inl ⟨rfl, rfl⟩)
    go_loop [5, 6] (fun s i => ∃ (k : Nat) (z : Int), k ≤ n ∧ i = .int .i64 k ∧ s = .int .i64 z ∧ 0 ≤ z ∧ z ≤ 1048576) (fun _ i => n - (intOf i).toNat)
    case atStart => exact ⟨0, _, Nat.zero_le _, rfl, rfl, by omega, by omega⟩
    case round =>
      obtain ⟨k, z, hk, rfl, rfl, hz0, hz1⟩ := hrel
      by_cases hlt : k < n
      · have g := (hc k hlt).1
        have gm := hm k hlt
        clear hc hm
        go_wp2
        · go_ret; exact Or.inl ⟨rfl, rfl⟩
        · go_ret; exact Or.inl ⟨rfl, rfl⟩
        · go_round
          case rel => exact ⟨k + 1, _, by omega, by go_num, rfl, by omega, by omega⟩
          case measure => simp [intOf]; omega
      · clear hc hm
        go_wp2
        go_ret; exact Or.inr ⟨rfl, rfl⟩

def tot (sv : Nat → ByteArray) : Nat → Nat
  | 0 => 0
  | k + 1 => tot sv k + (sv k).size
def Fine (n : Nat) (sv : Nat → ByteArray) : Prop := n ≤ 65536 ∧ tot sv n ≤ 1048576
theorem tot_mono (sv : Nat → ByteArray) {k n : Nat} (h : k ≤ n) : tot sv k ≤ tot sv n := by
  induction n with
  | zero => have : k = 0 := by omega
            subst this; exact Nat.le_refl _
  | succ n ih =>
    by_cases e : k = n + 1
    · subst e; exact Nat.le_refl _
    · have := ih (by omega); show tot sv k ≤ tot sv n + _; omega
theorem tot_at (sv : Nat → ByteArray) {k n : Nat} (h : k < n) : (sv k).size ≤ tot sv n := by
  have := tot_mono sv (k := k + 1) (n := n) h
  have e : tot sv (k + 1) = tot sv k + (sv k).size := rfl
  omega

set_option maxHeartbeats 1000000 in
theorem big6 (a : Option Addr) (n c : Nat) (sv : Nat → ByteArray) (dv : Nat → Bool) (w : World) (hn : n ≤ maxLen) (hs : IsP w a n sv dv) (hm : ∀ j, j < n → (sv j).size ≤ maxLen) :
    Calls Try.prog 6 #[.slice a n c] w fun e w' => (e = .returned (.bool true) ∧ w = w') ∨ (e = .returned (.bool false) ∧ w = w' ∧ Fine n sv) := by
  unfold maxLen at hn hm
  rcases hs with hz | ⟨b, off, rfl, -, hc⟩
  · subst hz
    go_enter Try.func6, Try.ntmps6
    go_wp2
    go_loop [10] (fun i => i = .int .i64 0) (fun _ => 0)
    case atStart => rfl
    case round =>
      subst hrel
      go_wp2
      go_ret; exact Or.inr ⟨rfl, rfl, by unfold Fine; simp [tot]⟩
  · by_cases hn1 : n ≤ 65536
    · go_enter Try.func6, Try.ntmps6
      go_wp2
      go_loop [3, 10] (fun s i => ∃ (k : Nat) (z : Int), k ≤ n ∧ i = .int .i64 k ∧ s = .int .i64 z ∧ (tot sv k : Int) ≤ z ∧ z ≤ 1048576) (fun _ i => n - (intOf i).toNat)
      case atStart => exact ⟨0, _, Nat.zero_le _, rfl, rfl, by simp [tot], by omega⟩
      case round =>
        obtain ⟨k, z, hk, rfl, rfl, hz0, hz1⟩ := hrel
        by_cases hlt : k < n
        · have g := (hc k hlt).1
          have gm := hm k hlt
          have ts : Hid (tot sv (k + 1) = tot sv k + (sv k).size) := rfl
          clear hc hm
          go_wp2
          · go_ret; exact Or.inl ⟨rfl, rfl⟩
          · go_ret; exact Or.inl ⟨rfl, rfl⟩
          · go_round
            case rel => exact ⟨k + 1, _, by omega, by go_num, rfl, by have := ts.out; omega, by omega⟩
            case measure => simp [intOf]; omega
        · have e : k = n := by omega
          subst e
          clear hc hm
          go_wp2
          go_ret; exact Or.inr ⟨rfl, rfl, by unfold Fine; omega⟩
    · go_enter Try.func6, Try.ntmps6
      go_wp2
      go_ret; exact Or.inl ⟨rfl, rfl⟩

set_option maxHeartbeats 1000000 in
theorem rune15 (s : ByteArray) (w : World) (hs : s.size ≤ 1048576) :
    Calls Try.prog 15 #[.string s] w fun e w' => ∃ n : Int, e = .returned (.int .u64 n) ∧ 0 ≤ n ∧ n ≤ 1048576 ∧ w = w' := by
  go_enter Try.func15, Try.ntmps15
  go_wp2
  go_loop [3, 4] (fun n i => ∃ (k : Nat) (z : Int), k ≤ s.size ∧ i = .int .i64 k ∧ n = .int .u64 z ∧ 0 ≤ z ∧ z ≤ k) (fun _ i => s.size - (intOf i).toNat)
  case atStart => exact ⟨0, 0, Nat.zero_le _, rfl, rfl, by omega, by omega⟩
  case round =>
    obtain ⟨k, z, hk, rfl, rfl, hz0, hz1⟩ := hrel
    by_cases hlt : k < s.size
    · go_wp2
      all_goals
        go_round
        case rel => exact ⟨k + 1, _, by omega, by go_num, rfl, by omega, by omega⟩
        case measure => simp [intOf]; omega
    · go_wp2
      go_ret; exact ⟨z, rfl, hz0, by omega, rfl⟩

end Go.Proofs.Qxb6616564a
