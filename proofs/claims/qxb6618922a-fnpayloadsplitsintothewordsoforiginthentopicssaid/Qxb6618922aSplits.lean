/-
  The walk of FnPayloadSplitsIntoTheWordsOfOriginThenTopics (4).
-/
import Derived.Test.Qxb6618922aCuts
import Derived.Test.Qxb6618922aSplit
namespace Go.Proofs.Qxb6618922a.Pay
open Go.RowKit

theorem payB_list (o : ByteArray) (n : Nat) (sv : Nat → ByteArray) : (payB o n sv).data.toList = payL o n sv := by simp [payB]
theorem payL_zero (o : ByteArray) (sv : Nat → ByteArray) : payL o 0 sv = o.data.toList := by rw [payL_eq]; simp [lst, Lib.joinTail]

/-- The words up to topic m: how many, and their row. -/
def wlen (o : ByteArray) (sv : Nat → ByteArray) (m : Nat) : Nat := (spl (payL o m sv)).length
def wrow (o : ByteArray) (sv : Nat → ByteArray) (m : Nat) : List Value := rowOf (spl (payL o m sv))
theorem wlen_le (o : ByteArray) (sv : Nat → ByteArray) (m : Nat) : wlen o sv m ≤ o.size + tot sv m + 1 := by
  have := spl_len (payL o m sv); rw [pay_len] at this; exact this
theorem wlen_pos (o : ByteArray) (sv : Nat → ByteArray) (m : Nat) : 0 < wlen o sv m := List.length_pos_iff.2 (spl_ne _)
theorem wlen_succ (o : ByteArray) (sv : Nat → ByteArray) (m : Nat) : wlen o sv (m + 1) = wlen o sv m + (spl (sv m).data.toList).length := by
  unfold wlen; rw [pay_succ, spl_app, List.length_append]
theorem wrow_succ (o : ByteArray) (sv : Nat → ByteArray) (m : Nat) : wrow o sv (m + 1) = wrow o sv m ++ rowOf (spl (sv m).data.toList) := by
  unfold wrow; rw [pay_succ, spl_app, rowOf_append]

theorem got12 (o : ByteArray) (n : Nat) (sv : Nat → ByteArray) (w : World) (hs : (payB o n sv).size ≤ 1048576) :
    Calls Try.prog 12 #[.string (payB o n sv)] w fun e w' => ∃ g cap, e = .returned (.slice (some ⟨g, 0, none⟩) (wlen o sv n) cap) ∧
      w'.ownsRow w.heap.size 9 1 (.slice (some ⟨g, 0, none⟩) (wlen o sv n) cap) (wlen o sv n) (wrow o sv n) ∧ Below w.heap.size w w' := by
  have h := split12 (payB o n sv) w (by omega)
  rw [payB_list] at h
  exact h
theorem want12 (o : ByteArray) (sv : Nat → ByteArray) (w : World) (hs : o.size ≤ 1048576) :
    Calls Try.prog 12 #[.string o] w fun e w' => ∃ g cap, e = .returned (.slice (some ⟨g, 0, none⟩) (wlen o sv 0) cap) ∧
      w'.ownsRow w.heap.size 9 1 (.slice (some ⟨g, 0, none⟩) (wlen o sv 0) cap) (wlen o sv 0) (wrow o sv 0) ∧ Below w.heap.size w w' := by
  have h := split12 o w (by omega)
  rw [← payL_zero o sv] at h
  exact h

/-- What is owned stays owned below. -/
theorem own_below {w w' : World} {base n : Nat} {v : Value} {xs : List Value} (h : w.ownsRow base 9 1 v n xs) (hb : Below w.heap.size w w') : w'.ownsRow base 9 1 v n xs := by
  refine ⟨h.1, ?_⟩
  rcases h.2 with h' | ⟨g, cap, cur, hv, h1, hg, h2⟩
  · exact .inl h'
  · refine .inr ⟨g, cap, cur, hv, h1, ?_, h2⟩
    have hlt : g < w.heap.size := by
      rcases Nat.lt_or_ge g w.heap.size with hlt | hge
      · exact hlt
      · rw [Array.getElem?_eq_none hge] at hg; cases hg
    rw [hb.block g hlt]; exact hg
theorem own_cells {w : World} {base n g cap : Nat} {xs : List Value} (h : w.ownsRow base 9 1 (.slice (some ⟨g, 0, none⟩) n cap) n xs) : ∀ j u, xs[j]? = some u → w.cell? ((⟨g, 0, none⟩ : Addr).add j) = some u := by
  intro j u hu
  have hj : j < xs.length := by
    rcases Nat.lt_or_ge j xs.length with h' | h'
    · exact h'
    · rw [List.getElem?_eq_none h'] at hu; cases hu
  rw [h.1] at hj
  rw [Go.WideShapes.add_plain, Nat.zero_add, h.cellAt j hj, hu]
theorem own_lt {w : World} {base n g cap : Nat} {xs : List Value} (h : w.ownsRow base 9 1 (.slice (some ⟨g, 0, none⟩) n cap) n xs) : base ≤ g ∧ g < w.heap.size := by
  rcases h.2 with ⟨h', _⟩ | ⟨g', cap', cur, h', hb, hg, _⟩
  · simp at h'
  · simp only [Value.slice.injEq, Option.some.injEq, Addr.mk.injEq, and_true, true_and] at h'
    obtain ⟨rfl, rfl⟩ := h'
    refine ⟨hb, ?_⟩
    rcases Nat.lt_or_ge g w.heap.size with hlt | hge
    · exact hlt
    · rw [Array.getElem?_eq_none hge] at hg; cases hg
theorem own_block {w : World} {base n : Nat} {v : Value} {xs : List Value} (h : w.ownsRow base 9 1 v n xs) : ∀ k, v.ownBlock = some k → base ≤ k := by
  intro k hk
  rcases h.2 with ⟨rfl, _⟩ | ⟨g', cap, cur, rfl, hb, _⟩
  · simp [Value.ownBlock] at hk
  · simp [Value.ownBlock] at hk; omega

/-- The words as a function of the place. -/
def wat (o : ByteArray) (sv : Nat → ByteArray) (m : Nat) (j : Nat) : ByteArray := bs ((spl (payL o m sv)).getD j [])
theorem own_wat {w : World} {base g cap : Nat} {o : ByteArray} {sv : Nat → ByteArray} {m : Nat} (h : w.ownsRow base 9 1 (.slice (some ⟨g, 0, none⟩) (wlen o sv m) cap) (wlen o sv m) (wrow o sv m)) :
    ∀ j, j < wlen o sv m → w.cell? ⟨g, j, none⟩ = some (.string (wat o sv m j)) := by
  intro j hj
  rw [h.cellAt j (by omega)]
  unfold wlen at hj
  simp [wrow, rowOf, wat, hj]

set_option maxHeartbeats 2000000 in
set_option maxRecDepth 100000 in
theorem splits_some (hJ : JoinC) (o : ByteArray) (ad : Addr) (n c : Nat) (sv : Nat → ByteArray) (w : World) (ho : o.size ≤ maxLen) (hn : n ≤ maxLen) (hs : IsS w (some ad) n sv) (hm : ∀ j, j < n → (sv j).size ≤ maxLen) :
    Calls Try.prog 4 #[.string o, .slice (some ad) n c] w fun e w' => e = .returned (.bool true) ∧ Below w.heap.size w w' := by
  obtain ⟨i0, hi, hz0, hz1, hz2⟩ := info_parts info9
  have B11 := by11 o (some ad) n c sv w ho hn hs hm
  unfold maxLen at ho hn
  have hne := neq22
  go_enter Try.func4, Try.ntmps4
  go_wp2_with fail
  refine B11.mono ?_
  clear B11
  rintro e w' (⟨rfl, rfl⟩ | ⟨rfl, rfl, HS⟩)
  · go_wp2
    go_ret
    exact ⟨rfl, Below.refl _ _⟩
  · have HS' : Hid (Small n sv) := HS
    clear HS hm
    by_cases ho1 : o.size ≤ 1048576
    · by_cases hn1 : n ≤ 65536
      · have HI : Hid (IsS w (some ad) n sv) := hs
        clear hs
        go_wp2_with (at_make; refine wpList_make_full _ rfl _ _ 22 rfl w.heap.size 9 i0 _ 1 Try.underlying22 hi hz0 hz1 .i64 .i64 n n n rfl rfl rfl rfl (by rw [hz2]; omega) (by unfold maxLen; omega) (Nat.le_refl _) ?_)
        intro w1 hown hgrow
        obtain ⟨cur, hcur, hlen⟩ := made_block hown
        have hb1 : Below w.heap.size w w1 := (Below.refl _ _).grown hgrow (Nat.le_refl _) (by intro k hk; cases hk)
        have hsrc := copied_src HI.out hb1
        clear hown hgrow
        go_wp2_with (refine wpList_copy_splice rfl _ _ 22 22 rfl 9 Try.underlying22 size9 (some ⟨w.heap.size, 0, none⟩) (some ad) n n n c rfl rfl w.heap.size 0 cur 9 hcur ((lst n sv).map Value.string) (by simp [lst_length]) (fun _ => ⟨rfl, ad, rfl, hsrc⟩) (by simp [lst_length, hlen]) (lst_one n sv) w.heap.size w hb1 (Nat.le_refl _) ?_)
        intro w2 hcur2 hb2
        obtain ⟨hc2, hlt2⟩ := copied_cells hlen hcur2.out
        have hsm := HS'.out
        clear hcur2 hcur hsrc hb1 HI HS'
        go_wp2
        go_loop [6, 7] (fun t i => ∃ (k : Nat) (z : Int), k ≤ n ∧ i = .int .i64 k ∧ t = .int .i64 z ∧ (o.size : Int) + (tot sv k : Int) ≤ z ∧ z ≤ 1048576) (fun _ i => n - (intOf i).toNat)
        case atStart => exact ⟨0, _, Nat.zero_le _, rfl, rfl, by simp [tot], by omega⟩
        case round =>
          obtain ⟨k, z, hk, rfl, rfl, hz0, hz1⟩ := hrel
          by_cases hlt : k < n
          · have g := hc2 k hlt
            have gs := hsm k hlt
            have ts : Hid (tot sv (k + 1) = tot sv k + (1 + (sv k).size)) := rfl
            clear hc2 hsm
            go_wp2
            · go_ret
              exact ⟨rfl, hb2⟩
            · go_round
              case rel => exact ⟨k + 1, _, by omega, by go_num, rfl, by have := ts.out; omega, by omega⟩
              case measure => simp [intOf]; omega
          · have e : k = n := by omega
            subst e
            have hz10 : (o.size : Int) + (tot sv k : Int) ≤ 1048576 := by omega
            have HC : Hid (∀ j, j < k → w2.cell? ⟨w.heap.size, j, none⟩ = some (.string (sv j))) := hc2
            have HS2 : Hid (Small k sv) := hsm
            have HL := whole_len o sv (n := k) (by omega)
            have s1 := size_left o sv (Nat.le_refl k) hz10
            have HW : Hid (∀ m, m ≤ k → wlen o sv m ≤ 1048577) := fun m hm => by have := wlen_le o sv m; have := tot_mono sv hm; omega
            clear hsm hlt hk hlen hc2
            go_wp2_with fail
            refine (pay10 hJ o _ k k sv w2 (isS_at HC.out hlt2) (by simp) hn1 HL.out).mono ?_
            rintro e w3 ⟨rfl, hb3⟩
            have HC3 := hc_later HC hb3 hlt2
            have hb23 := hb2.trans (hb3.mono (Nat.le_of_lt hlt2))
            have hlt3 : w.heap.size < w3.heap.size := Nat.lt_of_lt_of_le hlt2 hb3.size
            clear HC hb2 hb3 hlt2
            go_wp2_with fail
            refine (got12 o k sv w3 s1).mono ?_
            rintro e w4 ⟨g1, c1, rfl, hown1, hb4⟩
            have HC4 := hc_later HC3 hb4 hlt3
            have hb24 := hb23.trans (hb4.mono (Nat.le_of_lt hlt3))
            have hlt4 : w.heap.size < w4.heap.size := Nat.lt_of_lt_of_le hlt3 hb4.size
            have HO1 : Hid (w4.ownsRow w3.heap.size 9 1 (.slice (some ⟨g1, 0, none⟩) (wlen o sv k) c1) (wlen o sv k) (wrow o sv k)) := hown1
            clear HC3 hb23 hb4 hlt3 hown1 HL
            go_wp2_with fail
            refine (want12 o sv w4 ho1).mono ?_
            rintro e w5 ⟨g2, c2, rfl, hown2, hb5⟩
            go_wp2_with fail
            go_loopw [9, 10] (fun v i wr => ∃ m : Nat, m ≤ k ∧ i = .int .i64 m ∧ wr.ownsRow w4.heap.size 9 1 v (wlen o sv m) (wrow o sv m) ∧ Below w4.heap.size w4 wr) (fun _ i _ => k - (intOf i).toNat)
            case atStart => exact ⟨0, Nat.zero_le _, rfl, hown2, hb5⟩
            case round =>
              clear hown2 hb5
              obtain ⟨m, hm, rfl, hown, hbel⟩ := hrel
              by_cases hlt : m < k
              · have g := (hbel.cell (p := ⟨w.heap.size, m, none⟩) hlt4).trans (HC4.out m hlt)
                have gs := HS2.out m hlt
                have hwl := HW.out (m + 1) hlt
                have WL : Hid (wlen o sv (m + 1) = wlen o sv m + (spl (sv m).data.toList).length) := wlen_succ o sv m
                have hwl2 : wlen o sv m + (spl (sv m).data.toList).length ≤ 1048577 := by rw [← WL.out]; exact hwl
                have hsz := hbel.size
                clear hwl
                go_wp2_with fail
                refine (split12 (sv m) wr (by omega)).mono ?_
                rintro e w6 ⟨g3, c3, rfl, hown3, hb6⟩
                have hownw := own_below hown hb6
                have hsz6 := hb6.size
                have hbel6 := hbel.trans (hb6.mono hsz)
                go_wp2_with (at_builtin; refine wpList_append_own _ rfl _ _ 22 rfl w4.heap.size 9 i0 _ 1 16 Try.underlying22 hi (by assumption) (by assumption) hz2 rfl (by decide) _ _ _ rfl hownw ⟨g3, 0, none⟩ _ c3 _ rfl (by simp [rowOf]) (own_cells hown3) (rowOf_one _) (by unfold maxLen; omega) (by omega) (by omega) ?_)
                intro v' w7 hown' hgrow _
                have R1 : w7.ownsRow w4.heap.size 9 1 v' (wlen o sv (m + 1)) (wrow o sv (m + 1)) := by rw [WL.out, wrow_succ]; exact hown'
                have R2 : Below w4.heap.size w4 w7 := hbel6.grown hgrow (by omega) (own_block hownw)
                clear hown' hgrow hownw hown hown3 hb6 hbel6 g
                go_wp2
                go_roundw
                case rel => exact ⟨m + 1, by omega, by go_num, R1, R2⟩
                case measure => simp [intOf]; omega
              · have e : m = k := by omega
                subst e
                obtain ⟨g, cap, hv, -, -⟩ := hown.form (wlen_pos o sv m)
                rw [hv] at hown ⊢
                have HO2 : Hid (∀ j, j < wlen o sv m → wr.cell? ⟨g, j, none⟩ = some (.string (wat o sv m j))) := own_wat hown
                have HO1' : Hid (∀ j, j < wlen o sv m → wr.cell? ⟨g1, j, none⟩ = some (.string (wat o sv m j))) := fun j hj => (hbel.cell (p := ⟨g1, j, none⟩) (own_lt HO1.out).2).trans (own_wat HO1.out j hj)
                have hwl := HW.out m (Nat.le_refl _)
                clear hown hv
                go_wp2_with fail
                refine (same13 g1 g (wlen o sv m) c1 cap (wat o sv m) wr (by omega) HO1'.out HO2.out).mono ?_
                rintro e w8 ⟨rfl, hb8⟩
                have hbE : Below w.heap.size w w8 := hb24.trans ((hbel.trans (hb8.mono hbel.size)).mono (Nat.le_of_lt hlt4))
                go_wp2
                go_ret
                exact ⟨rfl, hbE⟩
      · go_wp2
        go_ret
        exact ⟨rfl, Below.refl _ _⟩
    · go_wp2
      go_ret
      exact ⟨rfl, Below.refl _ _⟩

set_option maxHeartbeats 2000000 in
set_option maxRecDepth 100000 in
theorem splits_nil (hJ : JoinC) (o : ByteArray) (sv : Nat → ByteArray) (w : World) (ho : o.size ≤ maxLen) :
    Calls Try.prog 4 #[.string o, .slice none 0 0] w fun e w' => e = .returned (.bool true) ∧ Below w.heap.size w w' := by
  have B11 := by11 o none 0 0 sv w ho (by decide) (.inl rfl) (fun j hj => absurd hj (Nat.not_lt_zero _))
  unfold maxLen at ho
  have hne := neq22
  go_enter Try.func4, Try.ntmps4
  go_wp2_with fail
  refine B11.mono ?_
  clear B11
  rintro e w' (⟨rfl, rfl⟩ | ⟨rfl, rfl, -⟩)
  · go_wp2
    go_ret
    exact ⟨rfl, Below.refl _ _⟩
  · by_cases ho1 : o.size ≤ 1048576
    · have hz10 : (o.size : Int) + (tot sv 0 : Int) ≤ 1048576 := by simp [tot]; omega
      have HL := whole_len o sv (n := 0) hz10
      have s1 := size_left o sv (Nat.le_refl 0) hz10
      have hwl : wlen o sv 0 ≤ 1048577 := by have := wlen_le o sv 0; have e : tot sv 0 = 0 := rfl; omega
      clear hz10
      go_wp2_with fail
      go_loop [6, 7] (fun t i => i = .int .i64 0 ∧ t = .int .i64 o.size) (fun _ _ => 0)
      case atStart => exact ⟨rfl, rfl⟩
      case round =>
        obtain ⟨rfl, rfl⟩ := hrel
        go_wp2_with fail
        refine (pay10 hJ o none 0 0 sv w (.inl rfl) (by simp) (by omega) HL.out).mono ?_
        rintro e w3 ⟨rfl, hb3⟩
        go_wp2_with fail
        refine (got12 o 0 sv w3 s1).mono ?_
        rintro e w4 ⟨g1, c1, rfl, hown1, hb4⟩
        have hb14 := hb3.trans (hb4.mono hb3.size)
        have HO1 : Hid (w4.ownsRow w3.heap.size 9 1 (.slice (some ⟨g1, 0, none⟩) (wlen o sv 0) c1) (wlen o sv 0) (wrow o sv 0)) := hown1
        clear hb3 hb4 hown1 HL
        go_wp2_with fail
        refine (want12 o sv w4 ho1).mono ?_
        rintro e w5 ⟨g2, c2, rfl, hown2, hb5⟩
        have hb15 := hb14.trans (hb5.mono hb14.size)
        have HO2 : Hid (∀ j, j < wlen o sv 0 → w5.cell? ⟨g2, j, none⟩ = some (.string (wat o sv 0 j))) := own_wat hown2
        have HO1' : Hid (∀ j, j < wlen o sv 0 → w5.cell? ⟨g1, j, none⟩ = some (.string (wat o sv 0 j))) := fun j hj => (hb5.cell (p := ⟨g1, j, none⟩) (own_lt HO1.out).2).trans (own_wat HO1.out j hj)
        clear hb14 hb5 hown2 HO1
        go_wp2_with fail
        go_loop [9, 10] (fun v i => i = .int .i64 0 ∧ v = .slice (some ⟨g2, 0, none⟩) (wlen o sv 0) c2) (fun _ _ => 0)
        case atStart => exact ⟨rfl, rfl⟩
        case round =>
          obtain ⟨rfl, rfl⟩ := hrel
          go_wp2_with fail
          refine (same13 g1 g2 (wlen o sv 0) c1 c2 (wat o sv 0) w5 (by omega) HO1'.out HO2.out).mono ?_
          rintro e w8 ⟨rfl, hb8⟩
          have hbE : Below w.heap.size w w8 := hb15.trans (hb8.mono hb15.size)
          go_wp2
          go_ret
          exact ⟨rfl, hbE⟩
    · go_wp2
      go_ret
      exact ⟨rfl, Below.refl _ _⟩

/-- The law, whatever the input. -/
theorem splits (hJ : JoinC) (o : ByteArray) (a : Option Addr) (n c : Nat) (sv : Nat → ByteArray) (w : World) (ho : o.size ≤ maxLen) (hn : n ≤ maxLen) (hs : IsS w a n sv) (ha : a = none → n = 0 ∧ c = 0) (hm : ∀ j, j < n → (sv j).size ≤ maxLen) :
    Calls Try.prog 4 #[.string o, .slice a n c] w fun e w' => e = .returned (.bool true) ∧ Below w.heap.size w w' := by
  match a, ha, hs with
  | none, ha, _ => obtain ⟨rfl, rfl⟩ := ha rfl; exact splits_nil hJ o sv w ho
  | some ad, _, hs => exact splits_some hJ o ad n c sv w ho hn hs hm

end Go.Proofs.Qxb6618922a.Pay
