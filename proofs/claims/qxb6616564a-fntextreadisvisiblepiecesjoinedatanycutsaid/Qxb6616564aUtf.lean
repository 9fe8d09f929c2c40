/-
  zzValidUTF8 (13) and zzTextPremise (7): each returns, whatever the bytes; the answer does not matter to the laws.
-/
import Derived.Test.Qxb6616564aGuards
namespace Go.Proofs.Qxb6616564a
open Go.RowKit

set_option maxHeartbeats 4000000 in
set_option maxRecDepth 100000 in
theorem utf13 (s : ByteArray) (w : World) (hs : s.size ≤ 1048576) :
    Calls Try.prog 13 #[.string s] w fun e w' => (e = .returned (.bool false) ∧ w = w') ∨ (e = .returned (.bool true) ∧ w = w') := by
  go_enter Try.func13, Try.ntmps13
  go_wp2
  go_loop [3] (fun i => ∃ k : Nat, k ≤ s.size ∧ i = .int .i64 k) (fun i => s.size - (intOf i).toNat)
  case atStart => exact ⟨0, Nat.zero_le _, rfl⟩
  case round =>
    obtain ⟨k, hk, rfl⟩ := hrel
    by_cases hlt : k < s.size
    · go_wp2
      · go_round
        case rel => exact ⟨k + 1, by omega, by go_num⟩
        case measure => simp [intOf]; omega
      any_goals (go_ret; exact Or.inl ⟨rfl, rfl⟩)
      all_goals
        go_loop [7, 8] (fun r j => ∃ (m : Nat) (z : Int), m ≤ 4 ∧ j = .int .i64 m ∧ r = .int .u32 z) (fun _ j => 4 - (intOf j).toNat)
        case atStart => exact ⟨1, _, by omega, rfl, rfl⟩
        case round =>
          obtain ⟨m, z, hm, rfl, rfl⟩ := hrel
          go_wp2
          any_goals (go_ret; exact Or.inl ⟨rfl, rfl⟩)
          all_goals first
            | (go_round
               case rel => exact ⟨m + 1, _, by omega, by go_num, rfl⟩
               case measure => simp [intOf]; omega)
            | (go_round
               case rel => first | exact ⟨k + 2, by omega, by go_num⟩ | exact ⟨k + 3, by omega, by go_num⟩ | exact ⟨k + 4, by omega, by go_num⟩
               case measure => simp [intOf]; omega)
    · go_wp2
      go_ret; exact Or.inr ⟨rfl, rfl⟩

set_option maxHeartbeats 1000000 in
theorem prem7 (a : Option Addr) (n c : Nat) (sv : Nat → ByteArray) (dv : Nat → Bool) (w : World) (hf : Fine n sv) (hs : IsP w a n sv dv) :
    Calls Try.prog 7 #[.slice a n c] w fun e w' => (e = .returned (.bool false) ∧ w = w') ∨ (e = .returned (.bool true) ∧ w = w') := by
  have hn := hf.1
  have hm : ∀ j, j < n → (sv j).size ≤ 1048576 := fun j hj => Nat.le_trans (tot_at sv hj) hf.2
  clear hf
  rcases hs with hz | ⟨b, off, rfl, -, hc⟩
  · subst hz
    go_enter Try.func7, Try.ntmps7
    go_wp2
    go_loop [6] (fun i => i = .int .i64 0) (fun _ => 0)
    case atStart => rfl
    case round =>
      subst hrel
      go_wp2
      go_ret; exact Or.inr ⟨rfl, rfl⟩
  · go_enter Try.func7, Try.ntmps7
    go_wp2
    go_loop [6] (fun i => ∃ (k : Nat), k ≤ n ∧ i = .int .i64 k) (fun i => n - (intOf i).toNat)
    case atStart => exact ⟨0, Nat.zero_le _, rfl⟩
    case round =>
      obtain ⟨k, hk, rfl⟩ := hrel
      by_cases hlt : k < n
      · have g := (hc k hlt).1
        have gm := hm k hlt
        clear hc hm
        rcases he : (sv k).toList.isEmpty with _ | _
        · go_wp2_with fail
          refine (utf13 (sv k) w gm).mono ?_
          rintro e w' (⟨rfl, rfl⟩ | ⟨rfl, rfl⟩)
          · go_wp2
            go_ret; exact Or.inl ⟨rfl, rfl⟩
          · go_wp2
            go_round
            case rel => exact ⟨k + 1, by omega, by go_num⟩
            case measure => simp [intOf]; omega
        · go_wp2
          go_ret; exact Or.inl ⟨rfl, rfl⟩
      · clear hc hm
        go_wp2
        go_ret; exact Or.inr ⟨rfl, rfl⟩

end Go.Proofs.Qxb6616564a
