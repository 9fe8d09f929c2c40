/-
  The walk of FnPayloadCutsAtAnyTopic (3).
-/
import Derived.Test.Qxb6618922aPayLaw
import Derived.Laws.CopyOwn
namespace Go.Proofs.Qxb6618922a.Pay
open Go.RowKit

theorem neq22 (w : World) (a : Option Addr) (n c n' c' : Nat) : (binOp .neq 22 (.slice a n c) (.slice none n' c')).run Try.prog w = .ok (.bool (!a.isNone)) w :=
  run_neq_slice_nil_any w 22 9 a n c n' c' Try.underlying22

theorem size9 : (Try.prog.info? 9).map (·.size) = some 1 := by kernel_rfl

theorem made_block {w : World} {base : Nat} {g n : Nat} {xs : List Value} (h : w.ownsRow base 9 1 (.slice (some ⟨g, 0, none⟩) n n) n xs) :
    ∃ cur : List Value, w.heap[g]? = some (.cells cur.toArray 9 (0, 0)) ∧ cur.length = n := by
  rcases h.2 with ⟨h', _⟩ | ⟨g', cap', cur, h', _, hg, _, _, hcs, _⟩
  · simp at h'
  · simp only [Value.slice.injEq, Option.some.injEq, Addr.mk.injEq, and_true, true_and] at h'
    obtain ⟨rfl, rfl⟩ := h'
    exact ⟨cur.toList, by simpa using hg, by simpa using hcs⟩

theorem lst_one (n : Nat) (sv : Nat → ByteArray) : ∀ u ∈ (lst n sv).map Value.string, u.oneCell' = true := by
  intro u hu; obtain ⟨x, _, rfl⟩ := List.mem_map.1 hu; rfl

theorem copied_src {w w1 : World} {ad : Addr} {n : Nat} {sv : Nat → ByteArray} (hs : IsS w (some ad) n sv) (hb : Below w.heap.size w w1) :
    ∀ j v, ((lst n sv).map Value.string)[j]? = some v → w1.cell? (ad.add j) = some v := by
  intro j u hu
  rw [List.getElem?_map] at hu
  obtain ⟨x, hx, rfl⟩ := Option.map_eq_some_iff.1 hu
  obtain ⟨hj, rfl⟩ := lst_get hx
  rcases hs with h0 | ⟨b, off, e, hlt, hc⟩
  · omega
  · obtain rfl := Option.some.inj e
    rw [Go.WideShapes.add_plain, hb.cell (p := ⟨b, off + j, none⟩) hlt]
    exact hc j hj

theorem copied_cells {w2 : World} {g n : Nat} {cur : List Value} {sv : Nat → ByteArray} (hlen : cur.length = n)
    (h : w2.heap[g]? = some (.cells (splice cur 0 ((lst n sv).map Value.string)).toArray 9 (0, 0))) :
    (∀ j, j < n → w2.cell? ⟨g, j, none⟩ = some (.string (sv j))) ∧ g < w2.heap.size := by
  have e : splice cur 0 ((lst n sv).map Value.string) = (lst n sv).map Value.string := by
    unfold splice
    simp [lst_length, hlen]
  rw [e] at h
  refine ⟨fun j hj => ?_, ?_⟩
  · rw [cell_of_row w2 g j _ 9 (0, 0) h]
    simp [lst, hj]
  · rcases Nat.lt_or_ge g w2.heap.size with hlt | hge
    · exact hlt
    · rw [Array.getElem?_eq_none hge] at h; cases h

theorem whole_len (o : ByteArray) (sv : Nat → ByteArray) {n : Nat} (h : (o.size : Int) + (tot sv n : Int) ≤ 1048576) : Hid ((payL o n sv).length ≤ 140737488355328) := by
  show _ ≤ _
  rw [pay_len]; omega
theorem left_len (o : ByteArray) (sv : Nat → ByteArray) {q n : Nat} (h : q ≤ n) (hl : Hid ((payL o n sv).length ≤ 140737488355328)) : Hid ((payL o q sv).length ≤ 140737488355328) := by
  have h1 := hl.out
  have h2 := tot_mono sv h
  show _ ≤ _
  rw [pay_len] at h1 ⊢; omega
theorem right_len (o : ByteArray) (sv : Nat → ByteArray) {q n : Nat} (h : q ≤ n) (hl : Hid ((payL o n sv).length ≤ 140737488355328)) : Hid ((payL ⟨#[]⟩ (n - q) (fun j => sv (q + j))).length ≤ 140737488355328) := by
  have h1 := hl.out
  have h2 := tot_shift sv q (n - q)
  rw [Nat.add_sub_cancel' h] at h2
  show _ ≤ _
  rw [pay_len] at h1 ⊢
  have : (⟨#[]⟩ : ByteArray).size = 0 := rfl
  omega
theorem isS_at {w : World} {g n : Nat} {sv : Nat → ByteArray} (h : ∀ j, j < n → w.cell? ⟨g, j, none⟩ = some (.string (sv j))) (hg : g < w.heap.size) : IsS w (some ⟨g, 0, none⟩) n sv :=
  .inr ⟨g, 0, rfl, hg, fun j hj => by rw [Nat.zero_add]; exact h j hj⟩
theorem hc_later {w w' : World} {g n : Nat} {sv : Nat → ByteArray} (h : Hid (∀ j, j < n → w.cell? ⟨g, j, none⟩ = some (.string (sv j)))) (hb : Below w.heap.size w w') (hg : g < w.heap.size) :
    Hid (∀ j, j < n → w'.cell? ⟨g, j, none⟩ = some (.string (sv j))) :=
  fun j hj => (hb.cell (p := ⟨g, j, none⟩) hg).trans (h.out j hj)

def payR (sv : Nat → ByteArray) (q n : Nat) : ByteArray := payB ⟨#[]⟩ (n - q) (fun j => sv (q + j))
theorem cut_eq (o : ByteArray) (sv : Nat → ByteArray) {q n : Nat} (h : q ≤ n) : ((payB o n sv).toList == (payB o q sv ++ payR sv q n).toList) = true := payB_cut o n q h sv
theorem size_left (o : ByteArray) (sv : Nat → ByteArray) {q n : Nat} (h : q ≤ n) (hl : (o.size : Int) + (tot sv n : Int) ≤ 1048576) : (payB o q sv).size ≤ 1048576 := by
  have := tot_mono sv h
  rw [pay_size]; omega
theorem size_right (o : ByteArray) (sv : Nat → ByteArray) {q n : Nat} (h : q ≤ n) (hl : (o.size : Int) + (tot sv n : Int) ≤ 1048576) : (payR sv q n).size ≤ 1048576 := by
  have h2 := tot_shift sv q (n - q)
  rw [Nat.add_sub_cancel' h] at h2
  unfold payR
  rw [pay_size]
  have : (⟨#[]⟩ : ByteArray).size = 0 := rfl
  omega
theorem size_whole (o : ByteArray) (sv : Nat → ByteArray) {n : Nat} : (((payB o n sv).size : Int) == (o.size : Int) + (tot sv n : Int)) = true := by
  rw [pay_size]; simp
theorem right_some (hJ : JoinC) {w : World} {g n q : Nat} {sv : Nat → ByteArray} (h : ∀ j, j < n → w.cell? ⟨g, j, none⟩ = some (.string (sv j))) (hg : g < w.heap.size) (hq : q ≤ n) (hn : n ≤ 65536)
    (hl : (payL ⟨#[]⟩ (n - q) (fun j => sv (q + j))).length ≤ 140737488355328) :
    Calls Try.prog 10 #[.string ⟨#[]⟩, .slice (some ⟨g, q, none⟩) (n - q) (n - q)] w fun e w' => e = .returned (.string (payR sv q n)) ∧ Below w.heap.size w w' :=
  pay10 hJ ⟨#[]⟩ _ (n - q) (n - q) (fun j => sv (q + j)) w (.inr ⟨g, q, rfl, hg, fun j hj => h (q + j) (by omega)⟩) (by simp) (by omega) hl
theorem right_none (hJ : JoinC) (sv : Nat → ByteArray) (q : Nat) (w : World) (a : Addr) (hl : (payL ⟨#[]⟩ (q - q) (fun j => sv (q + j))).length ≤ 140737488355328) :
    Calls Try.prog 10 #[.string ⟨#[]⟩, .slice (some a) 0 0] w fun e w' => e = .returned (.string (payR sv q q)) ∧ Below w.heap.size w w' := by
  unfold payR
  rw [Nat.sub_self] at hl ⊢
  exact pay10 hJ ⟨#[]⟩ _ 0 0 (fun j => sv (q + j)) w (.inl rfl) (by simp) (by omega) hl

theorem right_nil (hJ : JoinC) (sv : Nat → ByteArray) (w : World) (hl : (payL ⟨#[]⟩ (0 - 0) (fun j => sv (0 + j))).length ≤ 140737488355328) :
    Calls Try.prog 10 #[.string ⟨#[]⟩, .slice none 0 0] w fun e w' => e = .returned (.string (payR sv 0 0)) ∧ Below w.heap.size w w' := by
  unfold payR
  rw [Nat.sub_self] at hl ⊢
  exact pay10 hJ ⟨#[]⟩ none 0 0 (fun j => sv (0 + j)) w (.inl rfl) (by simp) (by omega) hl

set_option maxHeartbeats 2000000 in
set_option maxRecDepth 100000 in
theorem cuts_some (hJ : JoinC) (o : ByteArray) (ad : Addr) (n c : Nat) (sv : Nat → ByteArray) (k0 : Int) (w : World) (ho : o.size ≤ maxLen) (hn : n ≤ maxLen) (hs : IsS w (some ad) n sv) (hm : ∀ j, j < n → (sv j).size ≤ maxLen)
    (hk1 : -9223372036854775808 ≤ k0) (hk2 : k0 ≤ 9223372036854775807) :
    Calls Try.prog 3 #[.string o, .slice (some ad) n c, .int .i64 k0] w fun e w' => e = .returned (.bool true) ∧ Below w.heap.size w w' := by
  obtain ⟨i0, hi, hz0, hz1, hz2⟩ := info_parts info9
  have B9 := by9 o (some ad) n c sv k0 w ho hn hs hm
  unfold maxLen at ho hn
  have hne := neq22
  have HK : Hid (-9223372036854775808 ≤ k0 ∧ k0 ≤ 9223372036854775807) := ⟨hk1, hk2⟩
  clear hk1 hk2
  go_enter Try.func3, Try.ntmps3
  go_wp2_with fail
  refine B9.mono ?_
  clear B9
  rintro e w' (⟨rfl, rfl⟩ | ⟨rfl, rfl, HS⟩)
  · go_wp2
    go_ret
    exact ⟨rfl, Below.refl _ _⟩
  · have HS' : Hid (Small n sv) := HS
    clear HS hm
    by_cases ho1 : o.size ≤ 1048576
    · by_cases hn1 : n ≤ 65536
      · have HI : Hid (IsS w (some ad) n sv) := hs
        clear hs
        go_wp2_with (at_make; refine wpList_make_full _ rfl _ _ 22 rfl w.heap.size 9 i0 _ 1 Try.underlying22 hi hz0 hz1 .i64 .i64 n n n rfl rfl rfl rfl (by rw [hz2]; omega) (by unfold maxLen; omega) (Nat.le_refl _) ?_)
        intro w1 hown hgrow
        obtain ⟨cur, hcur, hlen⟩ := made_block hown
        have hb1 : Below w.heap.size w w1 := (Below.refl _ _).grown hgrow (Nat.le_refl _) (by intro k hk; cases hk)
        have hsrc := copied_src HI.out hb1
        clear hown hgrow
        go_wp2_with (refine wpList_copy_splice rfl _ _ 22 22 rfl 9 Try.underlying22 size9 (some ⟨w.heap.size, 0, none⟩) (some ad) n n n c rfl rfl w.heap.size 0 cur 9 hcur ((lst n sv).map Value.string) (by simp [lst_length]) (fun _ => ⟨rfl, ad, rfl, hsrc⟩) (by simp [lst_length, hlen]) (lst_one n sv) w.heap.size w hb1 (Nat.le_refl _) ?_)
        intro w2 hcur2 hb2
        obtain ⟨hc2, hlt2⟩ := copied_cells hlen hcur2.out
        have hsm := HS'.out
        clear hcur2 hcur hsrc hb1 HI HS'
        go_wp2
        go_loop [8, 9] (fun t i => ∃ (k : Nat) (z : Int), k ≤ n ∧ i = .int .i64 k ∧ t = .int .i64 z ∧ (o.size : Int) + (tot sv k : Int) ≤ z ∧ z ≤ 1048576) (fun _ i => n - (intOf i).toNat)
        case atStart => exact ⟨0, _, Nat.zero_le _, rfl, rfl, by simp [tot], by omega⟩
        case round =>
          obtain ⟨k, z, hk, rfl, rfl, hz0, hz1⟩ := hrel
          by_cases hlt : k < n
          · have g := hc2 k hlt
            have gs := hsm k hlt
            have ts : Hid (tot sv (k + 1) = tot sv k + (1 + (sv k).size)) := rfl
            clear hc2 hsm
            go_wp2
            · go_ret
              exact ⟨rfl, hb2⟩
            · go_round
              case rel => exact ⟨k + 1, _, by omega, by go_num, rfl, by have := ts.out; omega, by omega⟩
              case measure => simp [intOf]; omega
          · have e : k = n := by omega
            subst e
            clear hsm hlt hk hlen HK
            by_cases hk0 : k0 < 0
            · go_wp2
              go_ret
              exact ⟨rfl, hb2⟩
            by_cases hk1 : (k : Int) < k0
            · go_wp2
              go_ret
              exact ⟨rfl, hb2⟩
            obtain ⟨q, hq⟩ : ∃ q : Nat, k0 = q := ⟨k0.toNat, by omega⟩
            subst hq
            have hqk : q ≤ k := by omega
            clear hk0 hk1
            have HC : Hid (∀ j, j < k → w2.cell? ⟨w.heap.size, j, none⟩ = some (.string (sv j))) := hc2
            have HL := whole_len o sv (n := k) (by omega)
            clear hc2
            go_wp2_with fail
            refine (pay10 hJ o _ k k sv w2 (isS_at HC.out hlt2) (by simp) hn1 HL.out).mono ?_
            rintro e w3 ⟨rfl, hb3⟩
            have HC3 := hc_later HC hb3 hlt2
            have hb23 := hb2.trans (hb3.mono (Nat.le_of_lt hlt2))
            have hlt3 : w.heap.size < w3.heap.size := Nat.lt_of_lt_of_le hlt2 hb3.size
            clear HC hb2 hb3 hlt2
            go_wp2_with fail
            have HL2 := left_len o sv hqk HL
            refine (pay10 hJ o _ q k sv w3 (isS_at (fun j hj => HC3.out j (by omega)) hlt3) (by simp) (by omega) HL2.out).mono ?_
            rintro e w4 ⟨rfl, hb4⟩
            have HC4 := hc_later HC3 hb4 hlt3
            have hb24 := hb23.trans (hb4.mono (Nat.le_of_lt hlt3))
            have hlt4 : w.heap.size < w4.heap.size := Nat.lt_of_lt_of_le hlt3 hb4.size
            clear HC3 hb23 hb4 hlt3
            have hz10 : (o.size : Int) + (tot sv k : Int) ≤ 1048576 := by omega
            have HR := right_len o sv hqk HL
            have Hcut := cut_eq o sv hqk
            have s1 := size_left o sv hqk hz10
            have s2 := size_right o sv hqk hz10
            have s3 := size_whole o sv (n := k)
            have HC4' := HC4
            clear HL HL2
            rcases Nat.lt_or_ge q k with hqlt | hqge
            · go_wp2_with fail
              refine (right_some hJ HC4.out hlt4 hqk hn1 HR.out).mono ?_
              rintro e w5 ⟨rfl, hb5⟩
              have HC5 := hc_later HC4 hb5 hlt4
              have hb25 := hb24.trans (hb5.mono (Nat.le_of_lt hlt4))
              clear HC4 hb24 hb5 hlt4 HC4' HR
              go_wp2_with fail
              go_loop [13, 14] (fun t i => ∃ m : Nat, m ≤ k ∧ i = .int .i64 m ∧ t = .int .i64 ((o.size : Int) + (tot sv m : Int))) (fun _ i => k - (intOf i).toNat)
              case atStart => exact ⟨0, Nat.zero_le _, rfl, by simp [tot]⟩
              case round =>
                obtain ⟨m, hm, rfl, rfl⟩ := hrel
                have tm := tot_mono sv hm
                by_cases hlt : m < k
                · have g := HC5.out m hlt
                  have ts : Hid (tot sv (m + 1) = tot sv m + (1 + (sv m).size)) := rfl
                  have tb : tot sv m + (1 + (sv m).size) ≤ tot sv k := tot_mono sv hlt
                  go_wp2
                  go_round
                  case rel => exact ⟨m + 1, by omega, by go_num, by rw [ts.out]; go_num⟩
                  case measure => simp [intOf]; omega
                · have e : m = k := by omega
                  subst e
                  go_wp2
                  go_ret
                  exact ⟨rfl, hb25⟩
            · have hqe : q = k := by omega
              subst hqe
              go_wp2_with fail
              refine (right_none hJ sv q w4 _ HR.out).mono ?_
              rintro e w5 ⟨rfl, hb5⟩
              have HC5 := hc_later HC4 hb5 hlt4
              have hb25 := hb24.trans (hb5.mono (Nat.le_of_lt hlt4))
              clear HC4 hb24 hb5 hlt4 HC4' HR
              go_wp2_with fail
              go_loop [13, 14] (fun t i => ∃ m : Nat, m ≤ q ∧ i = .int .i64 m ∧ t = .int .i64 ((o.size : Int) + (tot sv m : Int))) (fun _ i => q - (intOf i).toNat)
              case atStart => exact ⟨0, Nat.zero_le _, rfl, by simp [tot]⟩
              case round =>
                obtain ⟨m, hm, rfl, rfl⟩ := hrel
                have tm := tot_mono sv hm
                by_cases hlt : m < q
                · have g := HC5.out m hlt
                  have ts : Hid (tot sv (m + 1) = tot sv m + (1 + (sv m).size)) := rfl
                  have tb : tot sv m + (1 + (sv m).size) ≤ tot sv q := tot_mono sv hlt
                  go_wp2
                  go_round
                  case rel => exact ⟨m + 1, by omega, by go_num, by rw [ts.out]; go_num⟩
                  case measure => simp [intOf]; omega
                · have e : m = q := by omega
                  subst e
                  go_wp2
                  go_ret
                  exact ⟨rfl, hb25⟩
      · go_wp2
        go_ret
        exact ⟨rfl, Below.refl _ _⟩
    · go_wp2
      go_ret
      exact ⟨rfl, Below.refl _ _⟩

set_option maxHeartbeats 2000000 in
set_option maxRecDepth 100000 in
theorem cuts_nil (hJ : JoinC) (o : ByteArray) (sv : Nat → ByteArray) (k0 : Int) (w : World) (ho : o.size ≤ maxLen) :
    Calls Try.prog 3 #[.string o, .slice none 0 0, .int .i64 k0] w fun e w' => e = .returned (.bool true) ∧ Below w.heap.size w w' := by
  have B9 := by9 o none 0 0 sv k0 w ho (by decide) (.inl rfl) (fun j hj => absurd hj (Nat.not_lt_zero _))
  unfold maxLen at ho
  have hne := neq22
  go_enter Try.func3, Try.ntmps3
  go_wp2_with fail
  refine B9.mono ?_
  clear B9
  rintro e w' (⟨rfl, rfl⟩ | ⟨rfl, rfl, -⟩)
  · go_wp2
    go_ret
    exact ⟨rfl, Below.refl _ _⟩
  · by_cases ho1 : o.size ≤ 1048576
    · have hz10 : (o.size : Int) + (tot sv 0 : Int) ≤ 1048576 := by simp [tot]; omega
      have HL := whole_len o sv (n := 0) hz10
      have HR := right_len o sv (Nat.le_refl 0) HL
      have Hcut := cut_eq o sv (Nat.le_refl 0)
      have s1 := size_left o sv (Nat.le_refl 0) hz10
      have s2 := size_right o sv (Nat.le_refl 0) hz10
      have s3 : (((payB o 0 sv).size : Int) == (o.size : Int)) = true := by rw [pay_size]; simp [tot]
      clear hz10
      go_wp2_with fail
      go_loop [8, 9] (fun t i => i = .int .i64 0 ∧ t = .int .i64 o.size) (fun _ _ => 0)
      case atStart => exact ⟨rfl, rfl⟩
      case round =>
        obtain ⟨rfl, rfl⟩ := hrel
        by_cases hk0 : k0 < 0
        · go_wp2
          go_ret
          exact ⟨rfl, Below.refl _ _⟩
        by_cases hk1 : 0 < k0
        · go_wp2
          go_ret
          exact ⟨rfl, Below.refl _ _⟩
        obtain rfl : k0 = 0 := by omega
        clear hk0 hk1
        go_wp2_with fail
        refine (pay10 hJ o none 0 0 sv w (.inl rfl) (by simp) (by omega) HL.out).mono ?_
        rintro e w3 ⟨rfl, hb3⟩
        go_wp2_with fail
        refine (pay10 hJ o none 0 0 sv w3 (.inl rfl) (by simp) (by omega) HL.out).mono ?_
        rintro e w4 ⟨rfl, hb4⟩
        have hb14 := hb3.trans (hb4.mono hb3.size)
        clear hb3 hb4
        go_wp2_with fail
        refine (right_nil hJ sv w4 HR.out).mono ?_
        rintro e w5 ⟨rfl, hb5⟩
        have hb25 := hb14.trans (hb5.mono hb14.size)
        clear hb14 hb5
        go_wp2_with fail
        go_loop [13, 14] (fun t i => i = .int .i64 0 ∧ t = .int .i64 o.size) (fun _ _ => 0)
        case atStart => exact ⟨rfl, rfl⟩
        case round =>
          obtain ⟨rfl, rfl⟩ := hrel
          go_wp2
          go_ret
          exact ⟨rfl, hb25⟩
    · go_wp2
      go_ret
      exact ⟨rfl, Below.refl _ _⟩

/-- The law, whatever the input. -/
theorem cuts (hJ : JoinC) (o : ByteArray) (a : Option Addr) (n c : Nat) (sv : Nat → ByteArray) (k0 : Int) (w : World) (ho : o.size ≤ maxLen) (hn : n ≤ maxLen) (hs : IsS w a n sv) (ha : a = none → n = 0 ∧ c = 0) (hm : ∀ j, j < n → (sv j).size ≤ maxLen)
    (hk1 : -9223372036854775808 ≤ k0) (hk2 : k0 ≤ 9223372036854775807) :
    Calls Try.prog 3 #[.string o, .slice a n c, .int .i64 k0] w fun e w' => e = .returned (.bool true) ∧ Below w.heap.size w w' := by
  match a, ha, hs with
  | none, ha, _ => obtain ⟨rfl, rfl⟩ := ha rfl; exact cuts_nil hJ o sv k0 w ho
  | some ad, _, hs => exact cuts_some hJ o ad n c sv k0 w ho hn hs hm hk1 hk2

end Go.Proofs.Qxb6618922a.Pay
