/-
  The walk of FnTextReadDeletingAPieceCutsOutItsBytes (4).
-/
import Derived.Test.Qxb6616564aCat
import Derived.Test.Qxb6616564aUtf
import Derived.Test.Qxb6616564aCopy
namespace Go.Proofs.Qxb6616564a
open Go.RowKit

theorem info27 : (Try.prog.info? 27).map (fun i => (i.zero, i.size, i.bytes)) = some (some (.agg #[.string ByteArray.empty, .bool false]), 2, 24) := by kernel_rfl
theorem size27 : (Try.prog.info? 27).map (·.size) = some 2 := by kernel_rfl

theorem made27 {w : World} {base : Nat} {g n : Nat} {xs : List Value} (h : w.ownsRow base 27 2 (.slice (some ⟨g, 0, none⟩) n n) n xs) :
    ∃ cur : Array Value, w.heap[g]? = some (.cells cur 27 (0, 0)) ∧ cur.size = n * 2 := by
  rcases h.2 with ⟨h', _⟩ | ⟨g', cap', cur, h', _, hg, _, _, hcs, _⟩
  · simp at h'
  · simp only [Value.slice.injEq, Option.some.injEq, Addr.mk.injEq, and_true, true_and] at h'
    obtain ⟨rfl, rfl⟩ := h'
    exact ⟨cur, hg, hcs⟩

/-- The cells of a slice of pieces. -/
def Cells (w : World) (b off n : Nat) (sv : Nat → ByteArray) (dv : Nat → Bool) : Prop :=
  ∀ j, j < n → w.cell? ⟨b, off + j * 2, none⟩ = some (.string (sv j)) ∧ w.cell? ⟨b, off + j * 2 + 1, none⟩ = some (.bool (dv j))

theorem Cells.later {w w' : World} {b off n : Nat} {sv : Nat → ByteArray} {dv : Nat → Bool} (h : Cells w b off n sv dv) {B : Nat} (hb : Below B w w') (hlt : b < B) : Cells w' b off n sv dv :=
  fun j hj => ⟨(hb.cell (p := ⟨b, off + j * 2, none⟩) hlt).trans (h j hj).1, (hb.cell (p := ⟨b, off + j * 2 + 1, none⟩) hlt).trans (h j hj).2⟩

theorem src_cells {w : World} {b off n : Nat} {sv : Nat → ByteArray} {dv : Nat → Bool} (h : Cells w b off n sv dv) : ∀ j v, (pc sv dv n)[j]? = some v → w.cell? ((⟨b, off, none⟩ : Addr).add j) = some v := by
  intro j v hv
  rw [Go.WideShapes.add_plain]
  obtain ⟨i, hi, ⟨rfl, rfl⟩ | ⟨rfl, rfl⟩⟩ := pc_inv sv dv hv
  · exact (h i hi).1
  · rw [← Nat.add_assoc]; exact (h i hi).2

theorem block_cells {w : World} {g n : Nat} {sv : Nat → ByteArray} {dv : Nat → Bool} (h : w.heap[g]? = some (.cells (pc sv dv n).toArray 27 (0, 0))) : Cells w g 0 n sv dv := by
  intro j hj
  obtain ⟨g1, g2⟩ := pc_get sv dv hj
  rw [Nat.zero_add, cell_of_row w g _ _ _ _ h, cell_of_row w g _ _ _ _ h]
  simpa using ⟨g1, g2⟩

/-- ps2[q].Deleted = true. -/
theorem upd_cells {w : World} {g n q : Nat} {sv : Nat → ByteArray} {dv : Nat → Bool} (h : w.heap[g]? = some (.cells (pc sv dv n).toArray 27 (0, 0))) (hq : q < n) :
    Cells (w.setCell ⟨g, q * 2 + 1, none⟩ (.bool true)) g 0 n sv (upd dv q) := by
  have hb := heap_setCell_same w g (q * 2 + 1) _ 27 (.bool true) h
  intro j hj
  obtain ⟨g1, g2⟩ := pc_get sv dv hj
  have hl : q * 2 + 1 < (pc sv dv n).length := by rw [pc_length]; omega
  rw [Nat.zero_add, cell_of_row _ g _ _ _ _ hb, cell_of_row _ g _ _ _ _ hb]
  by_cases e : j = q
  · subst e
    rw [upd_same]
    simp [g1, hl]
  · rw [upd_other dv e]
    simp [List.getElem?_set, g1, g2]
    omega

set_option maxHeartbeats 4000000 in
set_option maxRecDepth 100000 in
theorem del_some (b off n c : Nat) (q0 : Int) (sv : Nat → ByteArray) (dv : Nat → Bool) (w : World) (hnm : n ≤ maxLen) (hm : ∀ j, j < n → (sv j).size ≤ maxLen) (hblt : b < w.heap.size) (hc : Cells w b off n sv dv) (hcap : n ≤ c) :
    Calls Try.prog 4 #[.slice (some ⟨b, off, none⟩) n c, .int .i64 q0] w fun e w' => e = .returned (.bool true) ∧ Below w.heap.size w w' := by
  obtain ⟨i0, hi, hz0, hz1, hz2⟩ := info_parts info27
  have hP : IsP w (some ⟨b, off, none⟩) n sv dv := .inr ⟨b, off, rfl, hblt, hc⟩
  have HP : Hid (IsP w (some ⟨b, off, none⟩) n sv dv) := hP
  have HM : Hid (∀ j, j < n → (sv j).size ≤ maxLen) := hm
  have HNM : Hid (n ≤ maxLen) := hnm
  have HC : Hid (Cells w b off n sv dv) := hc
  unfold maxLen at hnm
  clear hc hm hP
  go_enter Try.func4, Try.ntmps4
  go_wp2_with fail
  refine (by12 (some ⟨b, off, none⟩) n c sv dv q0 w HNM.out HP.out HM.out).mono ?_
  rintro e w' (⟨rfl, rfl⟩ | ⟨rfl, rfl⟩)
  · go_wp2
    go_ret
    exact ⟨rfl, Below.refl _ _⟩
  go_wp2_with fail
  refine (big6 (some ⟨b, off, none⟩) n c sv dv w HNM.out HP.out HM.out).mono ?_
  rintro e w' (⟨rfl, rfl⟩ | ⟨rfl, rfl, hf⟩)
  · go_wp2
    go_ret
    exact ⟨rfl, Below.refl _ _⟩
  have hn := hf.1
  have HF : Hid (Fine n sv) := hf
  clear hf HM HNM
  by_cases hq0 : q0 < 0
  · go_wp2
    go_ret
    exact ⟨rfl, Below.refl _ _⟩
  by_cases hq1 : (n : Int) ≤ q0
  · go_wp2
    go_ret
    exact ⟨rfl, Below.refl _ _⟩
  obtain ⟨q, hqq⟩ : ∃ q : Nat, q0 = q := ⟨q0.toNat, by omega⟩
  subst hqq
  have hq : q < n := by omega
  clear hq0 hq1
  go_wp2_with fail
  refine (prem7 (some ⟨b, off, none⟩) n c sv dv w HF.out HP.out).mono ?_
  rintro e w' (⟨rfl, rfl⟩ | ⟨rfl, rfl⟩)
  · go_wp2
    go_ret
    exact ⟨rfl, Below.refl _ _⟩
  · clear HP
    go_wp2_with (at_make; refine wpList_make_full _ rfl _ _ 22 rfl w.heap.size 27 i0 _ 2 Try.underlying22 hi hz0 hz1 .i64 .i64 n n n rfl rfl rfl rfl (by rw [hz2]; omega) (by unfold maxLen; omega) (Nat.le_refl _) ?_)
    intro w1 hown hgrow
    obtain ⟨cur, hcur, hlen⟩ := made27 hown
    have hb1 : Below w.heap.size w w1 := (Below.refl _ _).grown hgrow (Nat.le_refl _) (by intro k hk; cases hk)
    have hsrc := src_cells (HC.out.later hb1 hblt)
    clear hown hgrow
    go_wp2_with (refine wpList_copy_wide rfl _ _ 22 22 rfl 27 2 Try.underlying22 size27 w.heap.size n n ⟨b, off, none⟩ c rfl rfl cur 27 hcur (pc sv dv n) (pc_length _ _ _) hsrc (by rw [pc_length]; exact hlen) (pc_one _ _ _) w.heap.size w hb1 (Nat.le_refl _) ?_)
    intro w2 hcur2 hb2
    have hcd : w2.cell? ⟨w.heap.size, q * 2 + 1, none⟩ = some (.bool (dv q)) := by have := (block_cells hcur2.out q hq).2; rwa [Nat.zero_add] at this
    have hfd : w2.frozen? ⟨w.heap.size, q * 2 + 1, none⟩ = false := frozen_of_row _ _ _ _ _ hcur2.out
    have HC2 : Hid (Cells (w2.setCell ⟨w.heap.size, q * 2 + 1, none⟩ (.bool true)) w.heap.size 0 n sv (upd dv q)) := upd_cells hcur2.out hq
    have hb3 : Below w.heap.size w (w2.setCell ⟨w.heap.size, q * 2 + 1, none⟩ (.bool true)) := hb2.setCell (by exact Nat.le_refl _) _
    have hl3 : w.heap.size < (w2.setCell ⟨w.heap.size, q * 2 + 1, none⟩ (.bool true)).heap.size := by have := lt_of_block hcur2.out; simpa using this
    have HC1 : Hid (Cells (w2.setCell ⟨w.heap.size, q * 2 + 1, none⟩ (.bool true)) b off n sv dv) := HC.out.later hb3 hblt
    have HB3 : Hid (Below w.heap.size w (w2.setCell ⟨w.heap.size, q * 2 + 1, none⟩ (.bool true))) := hb3
    have HL3 : Hid (w.heap.size < (w2.setCell ⟨w.heap.size, q * 2 + 1, none⟩ (.bool true)).heap.size) := hl3
    clear hcur2 hb2 hb1 hcur hlen hsrc HC hb3 hl3
    go_wp2_with fail
    clear hcd hfd
    refine (rp8_some b off n c sv dv _ HF.out (Nat.lt_trans hblt HL3.out) HC1.out).mono ?_
    rintro e w4 ⟨rfl, hb4⟩
    have HC4a : Hid (Cells w4 b off n sv dv) := HC1.out.later hb4 (Nat.lt_trans hblt HL3.out)
    have HC4b : Hid (Cells w4 w.heap.size 0 n sv (upd dv q)) := HC2.out.later hb4 HL3.out
    have hB4 : Below w.heap.size w w4 := HB3.out.trans (hb4.mono (Nat.le_of_lt HL3.out))
    have hL4 : w.heap.size < w4.heap.size := Nat.lt_of_lt_of_le HL3.out hb4.size
    clear HC1 HC2 HB3 HL3 hb4
    unfold parts
    go_wp2_with fail
    refine (rp8_some w.heap.size 0 n n sv (upd dv q) w4 HF.out hL4 HC4b.out).mono ?_
    rintro e w5 ⟨rfl, hb5⟩
    have HC5 : Hid (Cells w5 b off n sv dv) := HC4a.out.later hb5 (Nat.lt_trans hblt hL4)
    have hB5 : Below w.heap.size w w5 := hB4.trans (hb5.mono (Nat.le_of_lt hL4))
    have hL5 : b < w5.heap.size := Nat.lt_of_lt_of_le (Nat.lt_trans hblt hL4) hb5.size
    clear HC4a HC4b hB4 hL4 hb5
    unfold parts
    go_wp2_with fail
    refine (rp8_some b off q c sv dv w5 ⟨by omega, Nat.le_trans (tot_mono sv (Nat.le_of_lt hq)) HF.out.2⟩ hL5 (fun j hj => HC5.out j (by omega))).mono ?_
    rintro e w6 ⟨rfl, hb6⟩
    have HC6 : Hid (Cells w6 b off n sv dv) := HC5.out.later hb6 hL5
    have hB6 : Below w.heap.size w w6 := hB5.trans (hb6.mono hB5.size)
    clear HC5 hB5 hb6 hL5
    unfold parts
    go_wp2_with fail
    go_loop [19, 75] (fun t i => ∃ k : Nat, k ≤ n ∧ i = .int .i64 k ∧ t = .int .i64 (tot (vis sv dv) k)) (fun _ i => n - (intOf i).toNat)
    case atStart => exact ⟨0, Nat.zero_le _, rfl, rfl⟩
    case round =>
      obtain ⟨k, hk, rfl, rfl⟩ := hrel
      have hV : tot (vis sv dv) n ≤ 1048576 := Nat.le_trans (tot_vis sv dv n) HF.out.2
      have tm := tot_mono (vis sv dv) hk
      by_cases hlt : k < n
      · have c1 := (HC6.out k hlt).1
        have c2 := (HC6.out k hlt).2
        have tb : tot (vis sv dv) k + (vis sv dv k).size ≤ tot (vis sv dv) n := tot_mono (vis sv dv) hlt
        have TS : Hid (tot (vis sv dv) (k + 1) = tot (vis sv dv) k + (vis sv dv k).size) := rfl
        rcases hd : dv k with _ | _
        · rw [vis_f hd] at tb
          have TS' : Hid (tot (vis sv dv) (k + 1) = tot (vis sv dv) k + (sv k).size) := by have := TS.out; rw [vis_f hd] at this; exact this
          rw [hd] at c2
          clear hd TS
          go_wp2
          go_round
          case rel => exact ⟨k + 1, by omega, by go_num, by rw [TS'.out]; go_num⟩
          case measure => simp [intOf]; omega
        · have TS' : Hid (tot (vis sv dv) (k + 1) = tot (vis sv dv) k) := by have := TS.out; rw [vis_t hd] at this; exact this
          rw [hd] at c2
          clear hd TS
          go_wp2
          go_round
          case rel => exact ⟨k + 1, by omega, by go_num, by rw [TS'.out]⟩
          case measure => simp [intOf]; omega
      · have e : k = n := by omega
        subst e
        have c1 := (HC6.out q hq).1
        have c2 := (HC6.out q hq).2
        have tb : tot (vis sv dv) q + (vis sv dv q).size ≤ tot (vis sv dv) k := tot_mono (vis sv dv) hq
        have sN := catB_size (vis sv dv) k
        have sQ := catB_size (vis sv dv) q
        have hql : (q : Int) < (k : Int) := by omega
        have FM := mid_piece (vis sv dv) hq
        have FD := del_eq sv dv hq
        rw [catB_size] at FD
        rcases hd : dv q with _ | _
        · rw [vis_f hd] at tb FM FD
          have F1 : (((catB (vis sv dv) k).extract (tot (vis sv dv) q) (tot (vis sv dv) q + (sv q).size)).toList == (sv q).toList) = true := by
            rw [FM]; simp
          have F2 : ((catB (vis sv (upd dv q)) k).toList == ((catB (vis sv dv) k).extract 0 (tot (vis sv dv) q) ++ (catB (vis sv dv) k).extract (tot (vis sv dv) q + (sv q).size) (tot (vis sv dv) k)).toList) = true := by
            rw [FD]; simp
          rw [hd] at c2
          clear hd FM FD HC6
          go_wp2
          go_quiet (fail)
          go_wp2
          go_quiet (fail)
          go_wp2
          go_ret
          exact ⟨rfl, below_drewN (below_drewN hB6 _) _⟩
        · rw [vis_t hd] at tb FM FD
          have z0 : (⟨#[]⟩ : ByteArray).size = 0 := rfl
          rw [z0, Nat.add_zero] at FD
          have tb' : tot (vis sv dv) q ≤ tot (vis sv dv) k := by omega
          have F2 : ((catB (vis sv (upd dv q)) k).toList == ((catB (vis sv dv) k).extract 0 (tot (vis sv dv) k)).toList) = true := by
            rw [FD, ByteArray.extract_append_extract, Nat.zero_min, Nat.max_eq_right tb']; simp
          rw [hd] at c2
          clear hd FM FD HC6 tb z0
          go_wp2
          go_quiet (fail)
          go_wp2
          go_quiet (fail)
          go_wp2
          go_ret
          exact ⟨rfl, below_drewN (below_drewN hB6 _) _⟩

set_option maxHeartbeats 1000000 in
set_option maxRecDepth 100000 in
theorem del_zero (a : Option Addr) (c : Nat) (q0 : Int) (sv : Nat → ByteArray) (dv : Nat → Bool) (w : World) :
    Calls Try.prog 4 #[.slice a 0 c, .int .i64 q0] w fun e w' => e = .returned (.bool true) ∧ Below w.heap.size w w' := by
  go_enter Try.func4, Try.ntmps4
  go_wp2_with fail
  refine (by12 a 0 c sv dv q0 w (by decide) (.inl rfl) (fun j hj => absurd hj (Nat.not_lt_zero _))).mono ?_
  rintro e w' (⟨rfl, rfl⟩ | ⟨rfl, rfl⟩)
  · go_wp2
    go_ret
    exact ⟨rfl, Below.refl _ _⟩
  go_wp2_with fail
  refine (big6 a 0 c sv dv w (by decide) (.inl rfl) (fun j hj => absurd hj (Nat.not_lt_zero _))).mono ?_
  rintro e w' (⟨rfl, rfl⟩ | ⟨rfl, rfl, -⟩)
  · go_wp2
    go_ret
    exact ⟨rfl, Below.refl _ _⟩
  by_cases hq0 : q0 < 0
  · go_wp2
    go_ret
    exact ⟨rfl, Below.refl _ _⟩
  have hq1 : (0 : Int) ≤ q0 := by omega
  go_wp2
  go_ret
  exact ⟨rfl, Below.refl _ _⟩

/-- The law, whatever the input. -/
theorem del (a : Option Addr) (n c : Nat) (q0 : Int) (sv : Nat → ByteArray) (dv : Nat → Bool) (w : World) (hnm : n ≤ maxLen) (hs : IsP w a n sv dv) (hm : ∀ j, j < n → (sv j).size ≤ maxLen) (hcap : n ≤ c) :
    Calls Try.prog 4 #[.slice a n c, .int .i64 q0] w fun e w' => e = .returned (.bool true) ∧ Below w.heap.size w w' := by
  rcases hs with rfl | ⟨b, off, rfl, hlt, hc⟩
  · exact del_zero a c q0 sv dv w
  · exact del_some b off n c q0 sv dv w hnm hm hlt hc hcap

end Go.Proofs.Qxb6616564a
