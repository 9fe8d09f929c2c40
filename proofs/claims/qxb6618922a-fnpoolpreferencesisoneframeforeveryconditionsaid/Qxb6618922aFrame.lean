import Derived.Test.Qxb6618922aPool
namespace Go.Proofs.Qxb6618922a.Frame
open Go.RowKit

set_option maxHeartbeats 4000000 in
theorem main_walk (a b : ByteArray) (ha : a.size ≤ 524288) (hb : b.size ≤ 524288) (w : World) :
    Calls Try.prog 5 #[.string a, .string b] w fun e w' => e = .returned (.bool true) ∧ Grown w w' := by
  have sa := pp_size a
  have sb := pp_size b
  have ea : ((ppB a).size : Int) - (a.size : Int) = 143 := by omega
  have eb : ((ppB b).size : Int) - (b.size : Int) = 143 := by omega
  have a1 : 143 + a.size ≤ (ppB a).size := by omega
  have a2 : (ppB a).size ≤ 600000 := by omega
  have b1 : 143 + b.size ≤ (ppB b).size := by omega
  have b2 : (ppB b).size ≤ 600000 := by omega
  clear sa sb
  go_enter Try.func5, Try.ntmps5
  go_wp2_with (first
    | (go_at_call 14; refine (by14_t _ _ _ (by unfold maxLen; omega) (by unfold maxLen; omega) (by omega)).mono ?_; rintro e w' ⟨rfl, rfl⟩)
    | (go_at_call 15; refine (pp15 _ _ (by omega)).mono ?_; rintro e w' ⟨rfl, rfl⟩))
  go_loopw [8] (fun i wr => ∃ k : Nat, k ≤ 72 ∧ i = .int .i64 k ∧ Grown w wr) (fun i _ => 72 - (intOf i).toNat)
  case atStart => exact ⟨0, by omega, rfl, Grown.refl _⟩
  case round =>
    obtain ⟨k, hk, rfl, hg⟩ := hrel
    rcases h1 : ((ppB a).extract 0 k).toList == ((ppB b).extract 0 k).toList with _ | _
    · have hne : k ≠ 72 := by rintro rfl; rw [pp_pre, pp_pre] at h1; simp at h1
      go_wp2
      go_quiet (fail)
      go_wp2
      go_roundw
      case rel => exact ⟨k + 1, by omega, by go_num, grown_drewN hg _⟩
      case measure => simp [intOf]; omega
    rcases h2 : ((ppB a).extract k (k + a.size)).toList == a.toList with _ | _
    · have hne : k ≠ 72 := by rintro rfl; rw [pp_mid] at h2; simp at h2
      go_wp2
      go_quiet (fail)
      go_wp2
      go_roundw
      case rel => exact ⟨k + 1, by omega, by go_num, grown_drewN hg _⟩
      case measure => simp [intOf]; omega
    rcases h3 : ((ppB b).extract k (k + b.size)).toList == b.toList with _ | _
    · have hne : k ≠ 72 := by rintro rfl; rw [pp_mid] at h3; simp at h3
      go_wp2
      go_quiet (fail)
      go_wp2
      go_roundw
      case rel => exact ⟨k + 1, by omega, by go_num, grown_drewN hg _⟩
      case measure => simp [intOf]; omega
    rcases h4 : ((ppB a).extract (k + a.size) (ppB a).size).toList == ((ppB b).extract (k + b.size) (ppB b).size).toList with _ | _
    · have hne : k ≠ 72 := by rintro rfl; rw [pp_suf, pp_suf] at h4; simp at h4
      go_wp2
      go_quiet (fail)
      go_wp2
      go_roundw
      case rel => exact ⟨k + 1, by omega, by go_num, grown_drewN hg _⟩
      case measure => simp [intOf]; omega
    · go_wp2
      go_quiet (fail)
      go_wp2
      go_ret
      exact ⟨rfl, grown_drewN hg _⟩

theorem walk (a b : ByteArray) (ha : a.size ≤ maxLen) (hb : b.size ≤ maxLen) (w : World) :
    Calls Try.prog 5 #[.string a, .string b] w fun e w' => e = .returned (.bool true) ∧ Grown w w' := by
  by_cases ht : a.size + b.size ≤ 1048576
  · by_cases h1 : a.size ≤ 524288
    · by_cases h2 : b.size ≤ 524288
      · exact main_walk a b h1 h2 w
      · go_enter Try.func5, Try.ntmps5
        go_wp2_with (go_at_call 14; refine (by14_t _ _ _ ha hb ht).mono ?_; rintro e w' ⟨rfl, rfl⟩)
        go_ret
        exact ⟨rfl, Grown.refl _⟩
    · go_enter Try.func5, Try.ntmps5
      go_wp2_with (go_at_call 14; refine (by14_t _ _ _ ha hb ht).mono ?_; rintro e w' ⟨rfl, rfl⟩)
      go_ret
      exact ⟨rfl, Grown.refl _⟩
  · go_enter Try.func5, Try.ntmps5
    go_wp2_with (go_at_call 14; refine (by14_f _ _ _ ha hb ht).mono ?_; rintro e w' ⟨rfl, rfl⟩)
    go_ret
    exact ⟨rfl, Grown.refl _⟩

end Go.Proofs.Qxb6618922a.Frame
