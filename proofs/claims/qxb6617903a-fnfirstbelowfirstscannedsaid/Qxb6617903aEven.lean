/-
  The walk of FnFirstBelowFirstScanned (5): an even length.
-/
import Derived.Test.Qxb6617903aLaw
namespace Go.Proofs.Qxb6617903a
open Go.RowKit

set_option maxHeartbeats 4000000 in
set_option maxRecDepth 100000 in
theorem law_even (x : Addr) (len n c : Nat) (L : Nat → Int) (k0 lo0 hi0 frm key : Int) (w : World) (h2 : 2 ≤ len) (hlen : len ≤ maxLen) (hq : (len : Int) / 2 = n) (hm : 2 * (n : Int) = len) (hs : Hid (∀ j, j < len → w.cell? (x.add j) = some (.int .i64 (L j))))
    (hf : Hid ((-9223372036854775808 ≤ k0 ∧ k0 ≤ 9223372036854775807) ∧ (-9223372036854775808 ≤ lo0 ∧ lo0 ≤ 9223372036854775807) ∧ (-9223372036854775808 ≤ hi0 ∧ hi0 ≤ 9223372036854775807) ∧ (-9223372036854775808 ≤ frm ∧ frm ≤ 9223372036854775807))) :
    Calls Try.prog 5 #[.slice (some x) len c, .int .i64 k0, .int .i64 lo0, .int .i64 hi0, .int .i64 frm, .int .i64 key] w fun e w' => e = .returned (.bool true) ∧ Below w.heap.size w w' := by
  obtain ⟨i0, hi, hz0, hz1, hz2⟩ := info_parts info2
  have B12 := by12 (some x) len c k0 lo0 hi0 frm key w hlen
  unfold maxLen at hlen
  have hne := neq22
  go_enter Try.func5, Try.ntmps5
  go_wp2_with fail
  refine B12.mono ?_
  clear B12
  rintro e w' (⟨rfl, rfl⟩ | ⟨rfl, rfl⟩)
  · go_wp2
    go_ret
    exact ⟨rfl, Below.refl _ _⟩
  · by_cases hbig : len ≤ 131072
    · have hn1 : 1 ≤ n := by omega
      have hn2 : n ≤ 65536 := by omega
      go_wp2_with (at_make; refine wpList_make_full _ rfl _ _ 22 rfl w.heap.size 2 i0 _ 1 Try.underlying22 hi hz0 hz1 .i64 .i64 len len len rfl rfl rfl rfl (by rw [hz2]; omega) (by unfold maxLen; omega) (Nat.le_refl _) ?_)
      intro w1 hown hgrow
      obtain ⟨cur, hcur, hcl⟩ := made_block hown
      have hb1 : Below w.heap.size w w1 := (Below.refl _ _).grown hgrow (Nat.le_refl _) (by intro k hk; cases hk)
      have hsrc := copied_src hs.out hb1
      clear hown hgrow
      go_wp2_with (refine wpList_copy_splice rfl _ _ 22 22 rfl 2 Try.underlying22 size2 (some ⟨w.heap.size, 0, none⟩) (some x) len len len c rfl rfl w.heap.size 0 cur 2 hcur (row len L) (by simp [row_length]) (fun _ => ⟨rfl, x, rfl, hsrc⟩) (by simp [row_length, hcl]) (row_one _ L) w.heap.size w hb1 (Nat.le_refl _) ?_)
      intro w2 hcur2 hb2
      obtain ⟨hc0, hlt2⟩ := copied_cells hcl hcur2.out
      have hc2 : Hid (∀ j, j < len → w2.cell? ⟨w.heap.size, j, none⟩ = some (.int .i64 (L j))) := hc0
      clear hcur2 hcur hsrc hb1 hs hc0
      by_cases hbit : bits .and .i64 (n : Int) ((n : Int) - 1) = 0
      · have hpow : Hid (∃ H, n = 2 ^ H) := pow_of_bits hn1 hn2 hbit
        go_wp2
        go_loop [15, 16] (fun j _ => ∃ (k : Nat), 1 ≤ k ∧ k ≤ n ∧ j = .int .i64 k ∧ Hid (∀ i, 1 ≤ i → i < k → L i ≤ L (2 * i) ∧ L i ≤ L (2 * i + 1))) (fun j _ => n - (intOf j).toNat)
        case atStart => exact ⟨1, by omega, by omega, rfl, fun i h1 h2 => by omega⟩
        case round =>
          obtain ⟨k, hk1, hk2, rfl, ht⟩ := hrel
          by_cases hlt : k < n
          · have g1 := hc2.out k (by omega)
            have g2 := hc2.out (2 * k) (by omega)
            have g3 := hc2.out (2 * k + 1) (by omega)
            clear hc2
            by_cases hA : L (2 * k + 1) < L (2 * k)
            · by_cases hB : L k = L (2 * k + 1)
              · have hN : Hid (∀ i, 1 ≤ i → i < k + 1 → L i ≤ L (2 * i) ∧ L i ≤ L (2 * i + 1)) := tree_next ht.out (by omega) (by omega)
                go_wp2
                go_round
                case rel => exact ⟨k + 1, by omega, by omega, by go_num, hN⟩
                case measure => simp [intOf]; omega
              · go_wp2
                go_ret
                exact ⟨rfl, hb2⟩
            · by_cases hB : L k = L (2 * k)
              · have hN : Hid (∀ i, 1 ≤ i → i < k + 1 → L i ≤ L (2 * i) ∧ L i ≤ L (2 * i + 1)) := tree_next ht.out (by omega) (by omega)
                go_wp2
                go_round
                case rel => exact ⟨k + 1, by omega, by omega, by go_num, hN⟩
                case measure => simp [intOf]; omega
              · go_wp2
                go_ret
                exact ⟨rfl, hb2⟩
          · have e : n = k := by omega
            subst e
            have hT : Hid (Tree L n) := ht
            clear ht hk1 hk2 hlt
            by_cases a1 : k0 < 1
            · clear hc2
              go_wp2
              go_ret
              exact ⟨rfl, hb2⟩
            by_cases a2 : (len : Int) ≤ k0
            · go_wp2
              go_ret
              exact ⟨rfl, hb2⟩
            obtain ⟨k, hk⟩ : ∃ k : Nat, k0 = k := ⟨k0.toNat, by omega⟩
            subst hk
            have hk1 : 1 ≤ k := by omega
            have hk2 : k < len := by omega
            clear a1 a2
            go_wp2
            go_loop [17] (fun p => ∃ (q : Nat), 1 ≤ q ∧ q ≤ k ∧ p = .int .i64 q ∧ Hid (∃ e, q = 2 ^ e)) (fun p => k - (intOf p).toNat)
            case atStart => exact ⟨1, by omega, by omega, rfl, 0, rfl⟩
            case round =>
              obtain ⟨q, hq1, hq2, rfl, he⟩ := hrel
              by_cases hlt : q * 2 ≤ k
              · go_wp2
                go_round
                case rel => exact ⟨q * 2, by omega, by omega, by go_num, pow_next he.out⟩
                case measure => simp [intOf]; omega
              · obtain ⟨h, n1, n2, n3, n4, n5⟩ := node_at hpow.out he.out hq2 (by omega) (by omega)
                have hW1 : 1 ≤ 2 ^ h := Nat.two_pow_pos h
                obtain ⟨lo, hlo⟩ : ∃ lo, lo = (k - q) * 2 ^ h := ⟨_, rfl⟩
                rw [← hlo] at n3 n4 n5
                have H4 : Hid (k * 2 ^ h = n + lo) := n4
                obtain ⟨W, hW⟩ : ∃ W, W = 2 ^ h := ⟨_, rfl⟩
                rw [← hW] at n2 n3 n5 hW1
                have HW : Hid (W = 2 ^ h) := hW
                clear n1 n4 hlo hW he
                by_cases b1 : lo0 = lo
                · subst b1
                  obtain ⟨hi1, hhi1⟩ : ∃ hi1 : Nat, hi1 = lo + W := ⟨_, rfl⟩
                  have hsum : (lo : Int) + (W : Int) = (hi1 : Int) := by omega
                  have hhn : hi1 ≤ n := by omega
                  have H5 : Hid (hi1 = lo + 2 ^ h) := by rw [← HW.out]; exact hhi1
                  clear hhi1 HW
                  by_cases b2 : hi0 = hi1
                  · subst b2
                    have C := fb13' w.heap.size n len len h k lo hi1 L frm key w2 (by omega) hn2 hlt2 hc2 hT hk1 H4.out H5.out hhn
                    clear H4 H5 hT hpow
                    go_wp2_with fail
                    refine C.mono ?_
                    clear C
                    rintro e w3 ⟨rfl, hb3⟩
                    have hb : Below w.heap.size w w3 := hb2.trans (hb3.mono (Nat.le_of_lt hlt2))
                    have hc3 : Hid (∀ j, j < len → w3.cell? ⟨w.heap.size, j, none⟩ = some (.int .i64 (L j))) := fun j hj => (hb3.cell (p := ⟨w.heap.size, j, none⟩) hlt2).trans (hc2.out j hj)
                    obtain ⟨r1, r2⟩ := ans_range L n key frm lo hi1
                    clear hb2 hb3 hc2 hlt2
                    by_cases hfr : frm ≤ lo
                    · have hans : Hid (fsc L n key (hi1 - lo) lo = ans L n key frm lo hi1) := ans_lo hfr
                      generalize ans L n key frm lo hi1 = A at *
                      go_wp2
                      go_loop [21, 22] (fun v i => ∃ (a : Nat), v = .int .i64 (-1) ∧ i = .int .i64 a ∧ Hid ((a : Int) ≤ 9223372036854775807) ∧ Hid (fsc L n key (hi1 - a) a = A)) (fun _ i => hi1 - (intOf i).toNat)
                      case atStart => exact ⟨lo, rfl, rfl, show _ ≤ _ by omega, hans⟩
                      case round =>
                        obtain ⟨a, rfl, rfl, hab, hrest⟩ := hrel
                        by_cases hai : a < hi1
                        · have g1 := hc3.out (n + a) (by omega)
                          by_cases hkey : L (n + a) ≤ key
                          · have hA := scan_hit hrest.out hai hkey
                            go_wp2
                            go_ret
                            exact ⟨rfl, hb⟩
                          · have hN : Hid (fsc L n key (hi1 - (a + 1)) (a + 1) = A) := scan_miss hrest.out hai (by omega)
                            go_wp2
                            go_round
                            case rel => exact ⟨a + 1, rfl, by go_num, (show _ ≤ _ by omega), hN⟩
                            case measure => simp [intOf]; omega
                        · have hA := scan_end hrest.out (by omega)
                          go_wp2
                          go_ret
                          exact ⟨rfl, hb⟩
                    · obtain ⟨f, hf'⟩ : ∃ f : Nat, frm = f := ⟨frm.toNat, by omega⟩
                      subst hf'
                      have hans : Hid (fsc L n key (hi1 - f) f = ans L n key f lo hi1) := ans_frm (by omega)
                      generalize ans L n key f lo hi1 = A at *
                      go_wp2
                      go_loop [21, 22] (fun v i => ∃ (a : Nat), v = .int .i64 (-1) ∧ i = .int .i64 a ∧ Hid ((a : Int) ≤ 9223372036854775807) ∧ Hid (fsc L n key (hi1 - a) a = A)) (fun _ i => hi1 - (intOf i).toNat)
                      case atStart => exact ⟨f, rfl, rfl, hf.out.2.2.2.2, hans⟩
                      case round =>
                        obtain ⟨a, rfl, rfl, hab, hrest⟩ := hrel
                        by_cases hai : a < hi1
                        · have g1 := hc3.out (n + a) (by omega)
                          by_cases hkey : L (n + a) ≤ key
                          · have hA := scan_hit hrest.out hai hkey
                            go_wp2
                            go_ret
                            exact ⟨rfl, hb⟩
                          · have hN : Hid (fsc L n key (hi1 - (a + 1)) (a + 1) = A) := scan_miss hrest.out hai (by omega)
                            go_wp2
                            go_round
                            case rel => exact ⟨a + 1, rfl, by go_num, (show _ ≤ _ by omega), hN⟩
                            case measure => simp [intOf]; omega
                        · have hA := scan_end hrest.out (by omega)
                          go_wp2
                          go_ret
                          exact ⟨rfl, hb⟩
                  · go_wp2
                    go_ret
                    exact ⟨rfl, hb2⟩
                · go_wp2
                  go_ret
                  exact ⟨rfl, hb2⟩
      · go_wp2
        go_ret
        exact ⟨rfl, hb2⟩
    · go_wp2
      go_ret
      exact ⟨rfl, Below.refl _ _⟩

end Go.Proofs.Qxb6617903a
