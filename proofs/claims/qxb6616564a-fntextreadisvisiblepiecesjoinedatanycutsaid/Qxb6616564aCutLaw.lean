/-
  The walk of FnTextReadIsVisiblePiecesJoinedAtAnyCut (3).
-/
import Derived.Test.Qxb6616564aDel
namespace Go.Proofs.Qxb6616564a
open Go.RowKit

theorem Built.later {vs : Nat → ByteArray} {w wr w' : World} {v : Value} {k : Nat} (h : Built vs w wr v k) (hb : Below wr.heap.size wr w') : Built vs w w' v k := by
  refine ⟨⟨h.1.1, ?_⟩, h.2.1.trans (hb.mono h.2.1.size), h.2.2⟩
  rcases h.1.2 with h' | ⟨g, cap, cur, hv, h1, hg, h2⟩
  · exact .inl h'
  · refine .inr ⟨g, cap, cur, hv, h1, ?_, h2⟩
    rw [hb.block g (lt_of_block hg)]; exact hg
theorem Built.skip {sv : Nat → ByteArray} {dv : Nat → Bool} {w wr : World} {v : Value} {k : Nat} (h : Built (vis sv dv) w wr v k) (hd : dv k = true) : Built (vis sv dv) w wr v (k + 1) := by
  refine ⟨?_, h.2.1, h.2.2⟩
  have e1 : tot (vis sv dv) (k + 1) = tot (vis sv dv) k := by show tot (vis sv dv) k + (vis sv dv k).size = _; rw [vis_t hd]; rfl
  have e2 : cat (vis sv dv) (k + 1) = cat (vis sv dv) k := by show cat (vis sv dv) k ++ (vis sv dv k).data.toList = _; rw [vis_t hd]; simp
  rw [e1, e2]; exact h.1
theorem Built.put {sv : Nat → ByteArray} {dv : Nat → Bool} {w wr w2 : World} {v v' : Value} {k : Nat} (h : Built (vis sv dv) w wr v k) (hd : dv k = false)
    (hown' : w2.ownsRow w.heap.size 5 1 v' (tot (vis sv dv) k + (sv k).size) (strC (cat (vis sv dv) k) ++ Lib.strCells (sv k)))
    (hg : wr.grownBy w2 v.ownBlock) (hnil : v' = .slice none 0 0 → v = .slice none 0 0) : Built (vis sv dv) w w2 v' (k + 1) := by
  rw [← vis_f (sv := sv) hd] at hown'
  exact Built.step (k := k) h hown' hg hnil

/-- The pieces from q on. -/
def catR (sv : Nat → ByteArray) (dv : Nat → Bool) (q n : Nat) : ByteArray := catB (fun j => vis sv dv (q + j)) (n - q)
theorem right8 {w : World} {b off n c q : Nat} {sv : Nat → ByteArray} {dv : Nat → Bool} (hf : Fine n sv) (hlt : b < w.heap.size) (hc : Cells w b off n sv dv) (hq : q ≤ n) :
    Calls Try.prog 8 #[.slice (some ⟨b, off + q * 2, none⟩) (n - q) c] w fun e w' => e = .returned (parts (catR sv dv q n)) ∧ Below w.heap.size w w' := by
  refine rp8_some b (off + q * 2) (n - q) c (fun j => sv (q + j)) (fun j => dv (q + j)) w ?_ hlt ?_
  · refine ⟨by have := hf.1; omega, ?_⟩
    have h2 := hf.2
    have : tot (fun j => sv (q + j)) (n - q) ≤ tot sv n := by
      have e : ∀ m, tot sv (q + m) = tot sv q + tot (fun j => sv (q + j)) m := by
        intro m
        induction m with
        | zero => rfl
        | succ m ih =>
          show tot sv (q + m) + (sv (q + m)).size = tot sv q + (tot (fun j => sv (q + j)) m + (sv (q + m)).size)
          rw [ih]; omega
      have := e (n - q)
      rw [Nat.add_sub_cancel' hq] at this
      omega
    omega
  · intro j hj
    have h := hc (q + j) (by omega)
    rw [Nat.add_mul, ← Nat.add_assoc] at h
    exact h
theorem right8_end {w : World} (a : Option Addr) (c n : Nat) (sv : Nat → ByteArray) (dv : Nat → Bool) :
    Calls Try.prog 8 #[.slice a 0 c] w fun e w' => e = .returned (parts (catR sv dv n n)) ∧ Below w.heap.size w w' := by
  have h := rp8_zero a c (fun j => vis sv dv (n + j)) w
  unfold catR
  rw [Nat.sub_self]
  exact h
theorem catR_size (sv : Nat → ByteArray) (dv : Nat → Bool) {q n : Nat} (h : q ≤ n) : (catB (vis sv dv) q).size + (catR sv dv q n).size = tot (vis sv dv) n := by
  rw [← catB_size, catB_cut (vis sv dv) h, ByteArray.size_append]; rfl

theorem zero_joined (vs : Nat → ByteArray) : ((catB vs 0 ++ catB vs 0).toList == (catB vs 0).toList) = true := by
  have e : catB vs 0 = ByteArray.empty := rfl
  rw [e, ByteArray.empty_append]; simp
theorem joined_eq (sv : Nat → ByteArray) (dv : Nat → Bool) {q n : Nat} (h : q ≤ n) : ((catB (vis sv dv) q ++ catR sv dv q n).toList == (catB (vis sv dv) n).toList) = true := by
  rw [catB_cut (vis sv dv) h]; simp [catR]
theorem back_at {vs : Nat → ByteArray} {w wr : World} {g cap k : Nat} (h : Built vs w wr (.slice (some ⟨g, 0, none⟩) (tot vs k) cap) k) :
    (convert 25 9 (.slice (some ⟨g, 0, none⟩) (tot vs k) cap)).run Try.prog wr = .ok (.string (catB vs k)) wr := by
  obtain ⟨g', cap', hv, hc⟩ := h.back
  rw [hv]; exact hc

set_option maxHeartbeats 4000000 in
set_option maxRecDepth 100000 in
theorem cut_some (b off n c : Nat) (q0 : Int) (sv : Nat → ByteArray) (dv : Nat → Bool) (w : World) (hnm : n ≤ maxLen) (hm : ∀ j, j < n → (sv j).size ≤ maxLen) (hblt : b < w.heap.size) (hc : Cells w b off n sv dv) (hcap : n ≤ c) (hcm : c ≤ maxLen) :
    Calls Try.prog 3 #[.slice (some ⟨b, off, none⟩) n c, .int .i64 q0] w fun e w' => e = .returned (.bool true) ∧ Below w.heap.size w w' := by
  obtain ⟨i0, hi, hz0, hz1, hz2⟩ := info_parts info5
  have hP : IsP w (some ⟨b, off, none⟩) n sv dv := .inr ⟨b, off, rfl, hblt, hc⟩
  have HP : Hid (IsP w (some ⟨b, off, none⟩) n sv dv) := hP
  have HM : Hid (∀ j, j < n → (sv j).size ≤ maxLen) := hm
  have HNM : Hid (n ≤ maxLen) := hnm
  have HC : Hid (Cells w b off n sv dv) := hc
  unfold maxLen at hnm hcm
  clear hc hm hP
  go_enter Try.func3, Try.ntmps3
  go_wp2_with fail
  refine (by5 (some ⟨b, off, none⟩) n c sv dv q0 w HNM.out HP.out HM.out).mono ?_
  rintro e w' (⟨rfl, rfl⟩ | ⟨rfl, rfl⟩)
  · go_wp2
    go_ret
    exact ⟨rfl, Below.refl _ _⟩
  go_wp2_with fail
  refine (big6 (some ⟨b, off, none⟩) n c sv dv w HNM.out HP.out HM.out).mono ?_
  rintro e w' (⟨rfl, rfl⟩ | ⟨rfl, rfl, hf⟩)
  · go_wp2
    go_ret
    exact ⟨rfl, Below.refl _ _⟩
  have hn := hf.1
  have HF : Hid (Fine n sv) := hf
  clear hf HM HNM
  by_cases hq0 : q0 < 0
  · go_wp2
    go_ret
    exact ⟨rfl, Below.refl _ _⟩
  by_cases hq1 : (n : Int) < q0
  · go_wp2
    go_ret
    exact ⟨rfl, Below.refl _ _⟩
  obtain ⟨q, hqq⟩ : ∃ q : Nat, q0 = q := ⟨q0.toNat, by omega⟩
  subst hqq
  have hq : q ≤ n := by omega
  clear hq0 hq1
  go_wp2_with fail
  refine (prem7 (some ⟨b, off, none⟩) n c sv dv w HF.out HP.out).mono ?_
  rintro e w' (⟨rfl, rfl⟩ | ⟨rfl, rfl⟩)
  · go_wp2
    go_ret
    exact ⟨rfl, Below.refl _ _⟩
  · clear HP
    go_wp2_with (at_make; refine wpList_make_own _ rfl _ _ 25 rfl w.heap.size 5 i0 _ 1 Try.underlying25 hi hz0 hz1 .i64 .i64 _ 1024 rfl rfl rfl (by rw [hz2]; omega) (by unfold maxLen; omega) (Nat.le_refl _) ?_)
    intro w1 hown1 hgrow1
    have hb1 : Below w.heap.size w w1 := (Below.refl _ _).grown hgrow1 (Nat.le_refl _) (by intro k hk; cases hk)
    have hok : Built (vis sv dv) w w1 (.slice (some ⟨w.heap.size, 0, none⟩) 0 1024) 0 := ⟨hown1, hb1, by simp⟩
    have hV : tot (vis sv dv) n ≤ 1048576 := Nat.le_trans (tot_vis sv dv n) HF.out.2
    clear hown1 hgrow1 hb1
    go_wp2
    go_loopw [6, 44] (fun v i wr => ∃ m : Nat, m ≤ n ∧ i = .int .i64 m ∧ Built (vis sv dv) w wr v m) (fun _ i _ => n - (intOf i).toNat)
    case atStart => exact ⟨0, Nat.zero_le _, rfl, hok⟩
    case round =>
      clear hok
      obtain ⟨m, hm, rfl, hB⟩ := hrel
      have HB : Hid (Built (vis sv dv) w wr u6 m) := hB
      have hbw := hB.2.1
      have hsz := hbw.size
      clear hB
      by_cases hlt : m < n
      · have c1 := (hbw.cell (p := ⟨b, off + m * 2, none⟩) hblt).trans (HC.out m hlt).1
        have c2 := (hbw.cell (p := ⟨b, off + m * 2 + 1, none⟩) hblt).trans (HC.out m hlt).2
        have tb : tot (vis sv dv) m + (vis sv dv m).size ≤ tot (vis sv dv) n := tot_mono (vis sv dv) hlt
        rcases hd : dv m with _ | _
        · rw [vis_f hd] at tb
          rw [hd] at c2
          have HD : Hid (dv m = false) := hd
          have hown := HB.out.1
          clear hd
          go_wp2_with (at_builtin; refine Lib.wpList_append_own_string _ rfl _ _ 25 9 rfl w.heap.size 5 i0 Try.underlying25 Try.underlying9 hi hz0 hz1 hz2 _ _ _ rfl hown (sv m) rfl (by unfold maxLen; omega) (by omega) (by omega) ?_)
          intro v' w2 hown' hgrow hnil
          have R := HB.out.put HD.out hown' hgrow (fun e => (hnil.1 e).1)
          clear hown hown' hgrow hnil c1 c2 hbw
          go_wp2
          go_roundw
          case rel => exact ⟨m + 1, by omega, by go_num, R⟩
          case measure => simp [intOf]; omega
        · rw [hd] at c2
          have R := HB.out.skip hd
          clear hd hbw
          go_wp2
          go_roundw
          case rel => exact ⟨m + 1, by omega, by go_num, R⟩
          case measure => simp [intOf]; omega
      · have e : m = n := by omega
        subst e
        obtain ⟨g', cap', hv, -⟩ := HB.out.back
        have HB' : Hid (Built (vis sv dv) w wr (.slice (some ⟨g', 0, none⟩) (tot (vis sv dv) m) cap') m) := by have := HB.out; rw [hv] at this; exact this
        rw [hv]
        have hl0 : b < wr.heap.size := Nat.lt_of_lt_of_le hblt hsz
        have HC0 : Hid (Cells wr b off m sv dv) := HC.out.later hbw hblt
        clear HB hv HC hbw
        go_wp2_with fail
        refine (rp8_some b off m c sv dv wr HF.out hl0 HC0.out).mono ?_
        rintro e w2 ⟨rfl, hb2⟩
        have HC2 : Hid (Cells w2 b off m sv dv) := HC0.out.later hb2 hl0
        have hl2 : b < w2.heap.size := Nat.lt_of_lt_of_le hl0 hb2.size
        have HB2 : Hid (Built (vis sv dv) w w2 (.slice (some ⟨g', 0, none⟩) (tot (vis sv dv) m) cap') m) := HB'.out.later hb2
        clear HC0 HB' hb2 hl0 hsz
        unfold parts
        go_wp2_with fail
        refine (rp8_some b off q c sv dv w2 ⟨by omega, Nat.le_trans (tot_mono sv hq) HF.out.2⟩ hl2 (fun j hj => HC2.out j (by omega))).mono ?_
        rintro e w3 ⟨rfl, hb3⟩
        have HC3 : Hid (Cells w3 b off m sv dv) := HC2.out.later hb3 hl2
        have hl3 : b < w3.heap.size := Nat.lt_of_lt_of_le hl2 hb3.size
        have HB3 : Hid (Built (vis sv dv) w w3 (.slice (some ⟨g', 0, none⟩) (tot (vis sv dv) m) cap') m) := HB2.out.later hb3
        clear HC2 HB2 hb3 hl2
        unfold parts
        rcases Nat.lt_or_ge q c with hqc | hqc
        · go_wp2_with fail
          refine (right8 HF.out hl3 HC3.out hq).mono ?_
          rintro e w4 ⟨rfl, hb4⟩
          have HB4 : Hid (Built (vis sv dv) w w4 (.slice (some ⟨g', 0, none⟩) (tot (vis sv dv) m) cap') m) := HB3.out.later hb4
          clear HC3 HB3 hb4 hl3
          unfold parts
          go_wp2_with fail
          refine (nil11 w4).mono ?_
          rintro e w5 ⟨rfl, rfl⟩
          go_wp2_with fail
          refine (textRead_nil w4).mono ?_
          rintro e w5 ⟨rfl, hb5⟩
          have HB5 : Hid (Built (vis sv dv) w w5 (.slice (some ⟨g', 0, none⟩) (tot (vis sv dv) m) cap') m) := HB4.out.later hb5
          clear HB4 hb5
          unfold val
          go_wp2_with fail
          refine (parts9 _ w5).mono ?_
          rintro e w6 ⟨rfl, hb6⟩
          have HB6 : Hid (Built (vis sv dv) w w6 (.slice (some ⟨g', 0, none⟩) (tot (vis sv dv) m) cap') m) := HB5.out.later hb6
          clear HB5 hb6
          have hbE : Below w.heap.size w w6 := HB6.out.2.1
          have hconv := back_at HB6.out
          have F := joined_eq sv dv (q := q) (n := m) hq
          have sz := catR_size sv dv (q := q) (n := m) hq
          have sz1 : (catB (vis sv dv) q).size ≤ 1048576 := by omega
          have sz2 : (catR sv dv q m).size ≤ 1048576 := by omega
          clear HB6 sz
          go_wp2
          go_ret
          exact ⟨rfl, hbE⟩
        · obtain rfl : q = m := by omega
          obtain rfl : q = c := by omega
          go_wp2_with fail
          refine (right8_end _ _ q sv dv).mono ?_
          rintro e w4 ⟨rfl, hb4⟩
          have HB4 : Hid (Built (vis sv dv) w w4 (.slice (some ⟨g', 0, none⟩) (tot (vis sv dv) q) cap') q) := HB3.out.later hb4
          clear HC3 HB3 hb4 hl3
          unfold parts
          go_wp2_with fail
          refine (nil11 w4).mono ?_
          rintro e w5 ⟨rfl, rfl⟩
          go_wp2_with fail
          refine (textRead_nil w4).mono ?_
          rintro e w5 ⟨rfl, hb5⟩
          have HB5 : Hid (Built (vis sv dv) w w5 (.slice (some ⟨g', 0, none⟩) (tot (vis sv dv) q) cap') q) := HB4.out.later hb5
          clear HB4 hb5
          unfold val
          go_wp2_with fail
          refine (parts9 _ w5).mono ?_
          rintro e w6 ⟨rfl, hb6⟩
          have HB6 : Hid (Built (vis sv dv) w w6 (.slice (some ⟨g', 0, none⟩) (tot (vis sv dv) q) cap') q) := HB5.out.later hb6
          clear HB5 hb6
          have hbE : Below w.heap.size w w6 := HB6.out.2.1
          have hconv := back_at HB6.out
          have F := joined_eq sv dv (q := q) (n := q) (Nat.le_refl _)
          have sz := catR_size sv dv (q := q) (n := q) (Nat.le_refl _)
          have sz1 : (catB (vis sv dv) q).size ≤ 1048576 := by omega
          have sz2 : (catR sv dv q q).size ≤ 1048576 := by omega
          clear HB6 sz
          go_wp2
          go_ret
          exact ⟨rfl, hbE⟩

set_option maxHeartbeats 4000000 in
set_option maxRecDepth 100000 in
theorem cut_zero (a : Option Addr) (c : Nat) (q0 : Int) (sv : Nat → ByteArray) (dv : Nat → Bool) (w : World) (ha : (a = none ∧ c = 0) ∨ ∃ ad, a = some ad) (hcm : c ≤ maxLen) :
    Calls Try.prog 3 #[.slice a 0 c, .int .i64 q0] w fun e w' => e = .returned (.bool true) ∧ Below w.heap.size w w' := by
  obtain ⟨i0, hi, hz0, hz1, hz2⟩ := info_parts info5
  unfold maxLen at hcm
  have HA : Hid ((a = none ∧ c = 0) ∨ ∃ ad, a = some ad) := ha
  clear ha
  go_enter Try.func3, Try.ntmps3
  go_wp2_with fail
  refine (by5 a 0 c sv dv q0 w (by decide) (.inl rfl) (fun j hj => absurd hj (Nat.not_lt_zero _))).mono ?_
  rintro e w' (⟨rfl, rfl⟩ | ⟨rfl, rfl⟩)
  · go_wp2
    go_ret
    exact ⟨rfl, Below.refl _ _⟩
  go_wp2_with fail
  refine (big6 a 0 c sv dv w (by decide) (.inl rfl) (fun j hj => absurd hj (Nat.not_lt_zero _))).mono ?_
  rintro e w' (⟨rfl, rfl⟩ | ⟨rfl, rfl, hf⟩)
  · go_wp2
    go_ret
    exact ⟨rfl, Below.refl _ _⟩
  have HF : Hid (Fine 0 sv) := hf
  clear hf
  by_cases hq0 : q0 < 0
  · go_wp2
    go_ret
    exact ⟨rfl, Below.refl _ _⟩
  by_cases hq1 : (0 : Int) < q0
  · go_wp2
    go_ret
    exact ⟨rfl, Below.refl _ _⟩
  obtain rfl : q0 = 0 := by omega
  clear hq0 hq1
  go_wp2_with fail
  refine (prem7 a 0 c sv dv w HF.out (.inl rfl)).mono ?_
  rintro e w' (⟨rfl, rfl⟩ | ⟨rfl, rfl⟩)
  · go_wp2
    go_ret
    exact ⟨rfl, Below.refl _ _⟩
  · go_wp2_with (at_make; refine wpList_make_own _ rfl _ _ 25 rfl w.heap.size 5 i0 _ 1 Try.underlying25 hi hz0 hz1 .i64 .i64 _ 1024 rfl rfl rfl (by rw [hz2]; omega) (by unfold maxLen; omega) (Nat.le_refl _) ?_)
    intro w1 hown1 hgrow1
    have hb1 : Below w.heap.size w w1 := (Below.refl _ _).grown hgrow1 (Nat.le_refl _) (by intro k hk; cases hk)
    have hok : Built (vis sv dv) w w1 (.slice (some ⟨w.heap.size, 0, none⟩) 0 1024) 0 := ⟨hown1, hb1, by simp⟩
    clear hown1 hgrow1 hb1
    go_wp2
    go_loopw [6, 44] (fun v i wr => i = .int .i64 0 ∧ Built (vis sv dv) w wr v 0) (fun _ _ _ => 0)
    case atStart => exact ⟨rfl, hok⟩
    case round =>
      clear hok
      obtain ⟨rfl, hB⟩ := hrel
      obtain ⟨g', cap', hv, -⟩ := hB.back
      have e0 : tot (vis sv dv) 0 = 0 := rfl
      rw [e0] at hv
      have HB : Hid (Built (vis sv dv) w wr (.slice (some ⟨g', 0, none⟩) 0 cap') 0) := by have := hB; rw [hv] at this; exact this
      rw [hv]
      clear hB hv e0
      rcases HA.out with ⟨rfl, rfl⟩ | ⟨ad, rfl⟩
      all_goals
        clear HA
        go_wp2_with fail
        refine (rp8_zero _ _ (vis sv dv) wr).mono ?_
        rintro e w2 ⟨rfl, hb2⟩
        have HB2 : Hid (Built (vis sv dv) w w2 (.slice (some ⟨g', 0, none⟩) 0 cap') 0) := HB.out.later hb2
        clear HB hb2
        unfold parts
        go_wp2_with fail
        refine (rp8_zero _ _ (vis sv dv) w2).mono ?_
        rintro e w3 ⟨rfl, hb3⟩
        have HB3 : Hid (Built (vis sv dv) w w3 (.slice (some ⟨g', 0, none⟩) 0 cap') 0) := HB2.out.later hb3
        clear HB2 hb3
        unfold parts
        go_wp2_with fail
        refine (rp8_zero _ _ (vis sv dv) w3).mono ?_
        rintro e w4 ⟨rfl, hb4⟩
        have HB4 : Hid (Built (vis sv dv) w w4 (.slice (some ⟨g', 0, none⟩) 0 cap') 0) := HB3.out.later hb4
        clear HB3 hb4
        unfold parts
        go_wp2_with fail
        refine (nil11 w4).mono ?_
        rintro e w5 ⟨rfl, rfl⟩
        go_wp2_with fail
        refine (textRead_nil w4).mono ?_
        rintro e w5 ⟨rfl, hb5⟩
        have HB5 : Hid (Built (vis sv dv) w w5 (.slice (some ⟨g', 0, none⟩) 0 cap') 0) := HB4.out.later hb5
        clear HB4 hb5
        unfold val
        go_wp2_with fail
        refine (parts9 _ w5).mono ?_
        rintro e w6 ⟨rfl, hb6⟩
        have HB6 : Hid (Built (vis sv dv) w w6 (.slice (some ⟨g', 0, none⟩) 0 cap') 0) := HB5.out.later hb6
        clear HB5 hb6
        have hbE : Below w.heap.size w w6 := HB6.out.2.1
        have hconv : (convert 25 9 (.slice (some ⟨g', 0, none⟩) 0 cap')).run Try.prog w6 = .ok (.string (catB (vis sv dv) 0)) w6 := back_at (k := 0) HB6.out
        have F : ((catB (vis sv dv) 0 ++ catB (vis sv dv) 0).toList == (catB (vis sv dv) 0).toList) = true := zero_joined _
        have sz1 : (catB (vis sv dv) 0).size ≤ 1048576 := by rw [catB_size]; exact Nat.zero_le _
        clear HB6
        go_wp2
        go_ret
        exact ⟨rfl, hbE⟩

/-- The law, whatever the input. -/
theorem cut (a : Option Addr) (n c : Nat) (q0 : Int) (sv : Nat → ByteArray) (dv : Nat → Bool) (w : World) (hnm : n ≤ maxLen) (hs : IsP w a n sv dv) (ha : a = none → n = 0 ∧ c = 0) (hm : ∀ j, j < n → (sv j).size ≤ maxLen) (hcap : n ≤ c) (hcm : c ≤ maxLen) :
    Calls Try.prog 3 #[.slice a n c, .int .i64 q0] w fun e w' => e = .returned (.bool true) ∧ Below w.heap.size w w' := by
  rcases hs with rfl | ⟨b, off, rfl, hlt, hc⟩
  · refine cut_zero a c q0 sv dv w ?_ hcm
    cases a with
    | none => exact .inl ⟨rfl, (ha rfl).2⟩
    | some ad => exact .inr ⟨ad, rfl⟩
  · exact cut_some b off n c q0 sv dv w hnm hm hlt hc hcap hcm

end Go.Proofs.Qxb6616564a
