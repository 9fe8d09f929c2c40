/-
  zzReadPieces (8): the visible pieces, joined.
-/
import Derived.Test.Qxb6616564aRead
namespace Go.Proofs.Qxb6616564a
open Go.RowKit

def vis (sv : Nat → ByteArray) (dv : Nat → Bool) (j : Nat) : ByteArray := if dv j = true then ⟨#[]⟩ else sv j
theorem vis_t {sv : Nat → ByteArray} {dv : Nat → Bool} {j : Nat} (h : dv j = true) : vis sv dv j = ⟨#[]⟩ := by unfold vis; rw [if_pos h]
theorem vis_f {sv : Nat → ByteArray} {dv : Nat → Bool} {j : Nat} (h : dv j = false) : vis sv dv j = sv j := by unfold vis; rw [if_neg (by simp [h])]
theorem vis_size (sv : Nat → ByteArray) (dv : Nat → Bool) (j : Nat) : (vis sv dv j).size ≤ (sv j).size := by
  unfold vis; split
  · exact Nat.zero_le _
  · exact Nat.le_refl _
theorem tot_vis (sv : Nat → ByteArray) (dv : Nat → Bool) (n : Nat) : tot (vis sv dv) n ≤ tot sv n := by
  induction n with
  | zero => exact Nat.le_refl _
  | succ n ih => have := vis_size sv dv n; show tot (vis sv dv) n + _ ≤ tot sv n + _; omega

theorem add_txt_s (w0 w : World) (T n : Nat) (vs : Nat → ByteArray) (idN r : Int) (s : ByteArray) (d : Bool) (h : Txt w0 w T n vs) (hs : s = vs n) (hn : n ≤ 65536) (hr0 : 0 ≤ r) (hr1 : r ≤ 1048576) :
    Calls Try.prog 16 #[.pointer (some ⟨T, 0, none⟩), .int .u64 idN, .int .u64 r, .string s, .bool d] w fun e w' => e = .returned (.tuple #[]) ∧ Txt w0 w' T (n + 1) vs := by
  subst hs; exact add_txt w0 w T n vs idN r d h hn hr0 hr1

theorem txt_below {w0 w : World} {T n : Nat} {vs : Nat → ByteArray} (h : Txt w0 w T n vs) : Below w0.heap.size w0 w := by
  obtain ⟨_, _, _, _, _, _, _, hb, _⟩ := h; exact hb

/-- The result. -/
def parts (s : ByteArray) : Value := .tuple #[.int .u8 5, .int .u64 0, .string s, .bool false]

set_option maxHeartbeats 2000000 in
set_option maxRecDepth 100000 in
theorem rp8_some (b off n c : Nat) (sv : Nat → ByteArray) (dv : Nat → Bool) (w : World) (hf : Fine n sv) (hlt : b < w.heap.size)
    (hc : ∀ j, j < n → w.cell? ⟨b, off + j * 2, none⟩ = some (.string (sv j)) ∧ w.cell? ⟨b, off + j * 2 + 1, none⟩ = some (.bool (dv j))) :
    Calls Try.prog 8 #[.slice (some ⟨b, off, none⟩) n c] w fun e w' => e = .returned (parts (catB (vis sv dv) n)) ∧ Below w.heap.size w w' := by
  have hn := hf.1
  have HT : Hid (tot sv n ≤ 1048576) := hf.2
  have HC : Hid (∀ j, j < n → w.cell? ⟨b, off + j * 2, none⟩ = some (.string (sv j)) ∧ w.cell? ⟨b, off + j * 2 + 1, none⟩ = some (.bool (dv j))) := hc
  clear hf hc
  go_enter Try.func8, Try.ntmps8
  go_wp2_with (go_at_call 14; refine (new14 _).mono ?_; rintro e w1 ⟨rfl, rfl⟩)
  go_loopw [7, 14] (fun x i wr => ∃ (k : Nat) (z : Int), k ≤ n ∧ i = .int .i64 k ∧ x = .int .u64 z ∧ Txt w wr w.heap.size k (vis sv dv)) (fun _ i _ => n - (intOf i).toNat)
  case atStart => exact ⟨0, 1, Nat.zero_le _, rfl, rfl, txt_new w (vis sv dv)⟩
  case round =>
    obtain ⟨k, z, hk, rfl, rfl, hX⟩ := hrel
    have hb := txt_below hX
    have HX : Hid (Txt w wr w.heap.size k (vis sv dv)) := hX
    clear hX
    by_cases hlt2 : k < n
    · have c1 := (hb.cell (p := ⟨b, off + k * 2, none⟩) hlt).trans (HC.out k hlt2).1
      have c2 := (hb.cell (p := ⟨b, off + k * 2 + 1, none⟩) hlt).trans (HC.out k hlt2).2
      have hsz : (sv k).size ≤ 1048576 := Nat.le_trans (tot_at sv hlt2) HT.out
      rcases hd : dv k with _ | _
      · rw [hd] at c2
        have Hd : Hid (dv k = false) := hd
        clear hd
        go_wp2_with fail
        refine (rune15 (sv k) wr hsz).mono ?_
        rintro e w1 ⟨r, rfl, hr0, hr1, rfl⟩
        go_wp2_with fail
        refine (add_txt_s w wr w.heap.size k (vis sv dv) z r (sv k) false HX.out (vis_f Hd.out).symm (by omega) hr0 hr1).mono ?_
        rintro e w2 ⟨rfl, hX2⟩
        clear c1 c2 hb
        go_wp2
        go_roundw
        case rel => exact ⟨k + 1, _, by omega, by go_num, rfl, hX2⟩
        case measure => simp [intOf]; omega
      · rw [hd] at c2
        have Hd : Hid (dv k = true) := hd
        clear hd
        go_wp2_with fail
        refine (rune15 (sv k) wr hsz).mono ?_
        rintro e w1 ⟨r, rfl, hr0, hr1, rfl⟩
        go_wp2_with fail
        refine (add_txt_s w wr w.heap.size k (vis sv dv) z r ⟨#[]⟩ true HX.out (vis_t Hd.out).symm (by omega) hr0 hr1).mono ?_
        rintro e w2 ⟨rfl, hX2⟩
        clear c1 c2 hb
        go_wp2
        go_roundw
        case rel => exact ⟨k + 1, _, by omega, by go_num, rfl, hX2⟩
        case measure => simp [intOf]; omega
    · have e : k = n := by omega
      subst e
      have ht2 : tot (vis sv dv) k ≤ 1048576 := Nat.le_trans (tot_vis sv dv k) HT.out
      go_wp2_with fail
      refine (textRead w wr w.heap.size k (vis sv dv) HX.out hn ht2).mono ?_
      rintro e w1 ⟨rfl, hb1⟩
      unfold val
      go_wp2_with fail
      refine (parts9 _ w1).mono ?_
      rintro e w2 ⟨rfl, hb2⟩
      have hbE : Below w.heap.size w w2 := (hb.trans (hb1.mono hb.size)).trans (hb2.mono (Nat.le_trans hb.size hb1.size))
      go_wp2
      exact bodyPost_ret (v := parts (catB (vis sv dv) k)) (by simp [results, Try.results8, go_sem, parts]) rfl ⟨rfl, hbE⟩

set_option maxHeartbeats 2000000 in
set_option maxRecDepth 100000 in
theorem rp8_zero (a : Option Addr) (c : Nat) (vs : Nat → ByteArray) (w : World) :
    Calls Try.prog 8 #[.slice a 0 c] w fun e w' => e = .returned (parts (catB vs 0)) ∧ Below w.heap.size w w' := by
  go_enter Try.func8, Try.ntmps8
  go_wp2_with (go_at_call 14; refine (new14 _).mono ?_; rintro e w1 ⟨rfl, rfl⟩)
  go_loopw [14] (fun i wr => i = .int .i64 0 ∧ Txt w wr w.heap.size 0 vs) (fun _ _ => 0)
  case atStart => exact ⟨rfl, txt_new w vs⟩
  case round =>
    obtain ⟨rfl, hX⟩ := hrel
    have hb := txt_below hX
    have HX : Hid (Txt w wr w.heap.size 0 vs) := hX
    clear hX
    go_wp2_with fail
    refine (textRead w wr w.heap.size 0 vs HX.out (by omega) (by simp [tot])).mono ?_
    rintro e w1 ⟨rfl, hb1⟩
    unfold val
    go_wp2_with fail
    refine (parts9 _ w1).mono ?_
    rintro e w2 ⟨rfl, hb2⟩
    have hbE : Below w.heap.size w w2 := (hb.trans (hb1.mono hb.size)).trans (hb2.mono (Nat.le_trans hb.size hb1.size))
    go_wp2
    exact bodyPost_ret (v := parts (catB vs 0)) (by simp [results, Try.results8, go_sem, parts]) rfl ⟨rfl, hbE⟩

/-- Whatever the slice. -/
theorem rp8 (a : Option Addr) (n c : Nat) (sv : Nat → ByteArray) (dv : Nat → Bool) (w : World) (hf : Fine n sv) (hs : IsP w a n sv dv) :
    Calls Try.prog 8 #[.slice a n c] w fun e w' => e = .returned (parts (catB (vis sv dv) n)) ∧ Below w.heap.size w w' := by
  rcases hs with rfl | ⟨b, off, rfl, hlt, hc⟩
  · exact rp8_zero a c (vis sv dv) w
  · exact rp8_some b off n c sv dv w hf hlt hc

end Go.Proofs.Qxb6616564a
