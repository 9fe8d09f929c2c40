/-
  (*text).String (18).
-/
import Derived.Test.Qxb6616564aTxt
import Derived.Lib.AppendStr
import Derived.Laws.IdiomStrings
namespace Go.Proofs.Qxb6616564a
open Go.RowKit

def cat (vs : Nat → ByteArray) : Nat → List UInt8
  | 0 => []
  | k + 1 => cat vs k ++ (vs k).data.toList
theorem cat_length (vs : Nat → ByteArray) (k : Nat) : (cat vs k).length = tot vs k := by
  induction k with
  | zero => rfl
  | succ k ih => simp [cat, tot, ih]
def catB (vs : Nat → ByteArray) (k : Nat) : ByteArray := ⟨(cat vs k).toArray⟩
def strC (l : List UInt8) : List Value := l.map fun b => Value.int .u8 b.toNat
theorem strC_succ (vs : Nat → ByteArray) (k : Nat) : strC (cat vs (k + 1)) = strC (cat vs k) ++ Lib.strCells (vs k) := by
  simp [strC, cat, Lib.strCells]

theorem info5 : (Try.prog.info? 5).map (fun i => (i.zero, i.size, i.bytes)) = some (some (.int .u8 0), 1, 1) := by kernel_rfl

/-- What the loops read of a text whose row of chunks begins at ⟨g, 0⟩. -/
def Reads (w : World) (g n : Nat) (vs : Nat → ByteArray) : Prop :=
  ∀ j, j < n → ∃ C R P, w.cell? ⟨g, j, none⟩ = some (.pointer (some ⟨C, 0, none⟩)) ∧ w.cell? ⟨C, 0, none⟩ = some (.slice (some ⟨R, 0, none⟩) 1 1) ∧
    w.cell? ⟨R, 0, none⟩ = some (.pointer (some ⟨P, 0, none⟩)) ∧ w.cell? ⟨P, 3, none⟩ = some (.string (vs j)) ∧ g < w.heap.size ∧ C < w.heap.size ∧ R < w.heap.size ∧ P < w.heap.size

theorem txt_reads {w0 w : World} {T n : Nat} {vs : Nat → ByteArray} (h : Txt w0 w T n vs) :
    ∃ a cap, w.cell? ⟨T, 0, none⟩ = some (.slice a n cap) ∧ T < w.heap.size ∧ (n = 0 ∨ ∃ g, a = some ⟨g, 0, none⟩ ∧ Reads w g n vs) := by
  obtain ⟨a, cap, vis, xs, hT, hown, hx, hb, hBT⟩ := h
  refine ⟨a, cap, by rw [cell_of_row w T 0 _ _ _ hT]; rfl, lt_of_block hT, ?_⟩
  rcases hown.2 with ⟨_, h0⟩ | ⟨g, cap', cur, hv, _, hg, hnc, hcm, hcs, htake⟩
  · exact .inl h0
  · simp only [Value.slice.injEq, true_and] at hv
    obtain ⟨rfl, rfl⟩ := hv
    refine .inr ⟨g, rfl, fun j hj => ?_⟩
    obtain ⟨p, hp, C, R, P, x1, x2, cs, rfl, h1, h2, h3, h4⟩ := hx j hj
    refine ⟨C, R, P, ?_, ?_, ?_, ?_, lt_of_block hg, lt_of_block h1, lt_of_block h2, lt_of_block h3⟩
    · rw [hown.cellAt j (by omega)]; exact hp
    · rw [cell_of_row w C 0 _ _ _ h1]; rfl
    · rw [cell_of_row w R 0 _ _ _ h2]; rfl
    · rw [cell_of_row w P 3 _ _ _ h3]; exact h4

theorem add_txt (w0 w : World) (T n : Nat) (vs : Nat → ByteArray) (idN r : Int) (d : Bool) (h : Txt w0 w T n vs) (hn : n ≤ 65536) (hr0 : 0 ≤ r) (hr1 : r ≤ 1048576) :
    Calls Try.prog 16 #[.pointer (some ⟨T, 0, none⟩), .int .u64 idN, .int .u64 r, .string (vs n), .bool d] w fun e w' => e = .returned (.tuple #[]) ∧ Txt w0 w' T (n + 1) vs := by
  obtain ⟨a, cap, vis, xs, hT, hown, hx, hb, hBT⟩ := h
  cases d with
  | true =>
    refine (add16_del T w0.heap.size n cap a xs vis idN r (vs n) w hn hT hown hb.size).mono ?_
    rintro e w' ⟨rfl, hA⟩
    exact ⟨rfl, txt_add hT hown hx hb hBT (mid_del hT _ _ idN r (vs n) true) hA⟩
  | false =>
    refine (add16_vis T w0.heap.size n cap a xs vis idN r (vs n) w hn hr0 hr1 hT hown hb.size).mono ?_
    rintro e w' ⟨rfl, X, hA⟩
    exact ⟨rfl, txt_add hT hown hx hb hBT (mid_vis hT _ _ idN r (vs n) false X) hA⟩

/-- What has been gathered: the bytes of the first k pieces. -/
def Built (vs : Nat → ByteArray) (w wr : World) (v : Value) (k : Nat) : Prop :=
  wr.ownsRow w.heap.size 5 1 v (tot vs k) (strC (cat vs k)) ∧ Below w.heap.size w wr ∧ ¬ v = .slice none 0 0

theorem Built.step {vs : Nat → ByteArray} {w wr w2 : World} {v v' : Value} {k : Nat} (h : Built vs w wr v (k + 0)) (hown' : w2.ownsRow w.heap.size 5 1 v' (tot vs k + (vs k).size) (strC (cat vs k) ++ Lib.strCells (vs k)))
    (hg : wr.grownBy w2 v.ownBlock) (hnil : v' = .slice none 0 0 → v = .slice none 0 0) : Built vs w w2 v' (k + 1) := by
  refine ⟨?_, h.2.1.grown hg h.2.1.size ?_, fun e => h.2.2 (hnil e)⟩
  · rw [strC_succ]; exact hown'
  · intro g hgv
    rcases h.1.2 with ⟨rfl, _⟩ | ⟨g', cap, cur, rfl, hb, _⟩
    · simp [Value.ownBlock] at hgv
    · simp [Value.ownBlock] at hgv; omega

theorem Built.back {vs : Nat → ByteArray} {w wr : World} {v : Value} {k : Nat} (h : Built vs w wr v k) :
    ∃ g cap, v = .slice (some ⟨g, 0, none⟩) (tot vs k) cap ∧ (convert 25 9 (.slice (some ⟨g, 0, none⟩) (tot vs k) cap)).run Try.prog wr = .ok (.string (catB vs k)) wr := by
  rcases h.1.2 with ⟨h0, _⟩ | ⟨g, cap, cur, hv, _⟩
  · exact absurd h0 h.2.2
  · refine ⟨g, cap, hv, ?_⟩
    have hown := h.1
    rw [hv] at hown
    have := run_convert_bytes_back (P := Try.prog) wr 25 9 5 ⟨g, 0, none⟩ cap (cat vs k) Try.underlying25 Try.underlying5 Try.underlying9 (fun j hj => by
      rw [Go.WideShapes.add_plain, Nat.zero_add, hown.cellAt j (by rw [cat_length] at hj; omega)]
      simp [strC, hj])
    rw [cat_length] at this
    exact this

set_option maxHeartbeats 2000000 in
set_option maxRecDepth 100000 in
theorem str18_some (T n cap g : Nat) (vs : Nat → ByteArray) (w : World) (hn : n ≤ 65536) (ht : tot vs n ≤ 1048576) (hT : w.cell? ⟨T, 0, none⟩ = some (.slice (some ⟨g, 0, none⟩) n cap)) (hTl : T < w.heap.size) (hR : Reads w g n vs) :
    Calls Try.prog 18 #[.pointer (some ⟨T, 0, none⟩)] w fun e w' => e = .returned (.string (catB vs n)) ∧ Below w.heap.size w w' := by
  obtain ⟨i0, hi, hz0, hz1, hz2⟩ := info_parts info5
  have HR : Hid (Reads w g n vs) := hR
  clear hR
  go_enter Try.func18, Try.ntmps18
  go_wp2
  go_loop [3, 20] (fun s i => ∃ k : Nat, k ≤ n ∧ i = .int .i64 k ∧ s = .int .i64 (tot vs k)) (fun _ i => n - (intOf i).toNat)
  case atStart => exact ⟨0, Nat.zero_le _, rfl, rfl⟩
  case round =>
    obtain ⟨k, hk, rfl, rfl⟩ := hrel
    have tm := tot_mono vs hk
    by_cases hlt : k < n
    · obtain ⟨C, R, P, c1, c2, c3, c4, -, -, -, -⟩ := HR.out k hlt
      have ts : Hid (tot vs (k + 1) = tot vs k + (vs k).size) := rfl
      have tb : tot vs k + (vs k).size ≤ tot vs n := tot_mono vs hlt
      go_wp2
      go_loop [3, 29] (fun s i => (i = .int .i64 0 ∧ s = .int .i64 (tot vs k)) ∨ (i = .int .i64 1 ∧ s = .int .i64 ((tot vs k : Int) + (vs k).size))) (fun _ i => 1 - (intOf i).toNat)
      case atStart => exact Or.inl ⟨rfl, rfl⟩
      case round =>
        rcases hrel with ⟨rfl, rfl⟩ | ⟨rfl, rfl⟩
        · go_wp2
          go_round
          case rel => exact Or.inr ⟨rfl, rfl⟩
          case measure => simp [intOf]
        · go_wp2
          go_round
          case rel => exact ⟨k + 1, by omega, by go_num, by rw [ts.out]; go_num⟩
          case measure => simp [intOf]; omega
    · have e : k = n := by omega
      subst e
      go_wp2_with (at_make; refine wpList_make_own _ rfl _ _ 25 rfl w.heap.size 5 i0 _ 1 Try.underlying25 hi hz0 hz1 .i64 .i64 _ (tot vs k) rfl rfl rfl (by rw [hz2]; omega) (by unfold maxLen; omega) (Nat.le_refl _) ?_)
      intro w1 hown1 hgrow1
      have hb1 : Below w.heap.size w w1 := (Below.refl _ _).grown hgrow1 (Nat.le_refl _) (by intro k hk; cases hk)
      have hT1 : w1.cell? ⟨T, 0, none⟩ = some (.slice (some ⟨g, 0, none⟩) k cap) := (hb1.cell (p := ⟨T, 0, none⟩) hTl).trans hT
      have hok : Built vs w w1 (.slice (some ⟨w.heap.size, 0, none⟩) 0 (tot vs k)) 0 := ⟨hown1, hb1, by simp⟩
      clear hown1 hgrow1 hb1
      go_wp2
      go_loopw [8, 49] (fun v i wr => ∃ m : Nat, m ≤ k ∧ i = .int .i64 m ∧ Built vs w wr v m) (fun _ i _ => k - (intOf i).toNat)
      case atStart => exact ⟨0, Nat.zero_le _, rfl, hok⟩
      case round =>
        clear hok hT1
        obtain ⟨m, hm, rfl, hB⟩ := hrel
        by_cases hlt2 : m < k
        · obtain ⟨C, R, P, c1, c2, c3, c4, l1, l2, l3, l4⟩ := HR.out m hlt2
          have d1 := (hB.2.1.cell (p := ⟨g, m, none⟩) l1).trans c1
          have d2 := (hB.2.1.cell (p := ⟨C, 0, none⟩) l2).trans c2
          have HB : Hid (Built vs w wr u8 m) := hB
          have tb : tot vs m + (vs m).size ≤ tot vs k := tot_mono vs hlt2
          clear hB hT
          go_wp2
          go_loopw [8, 58] (fun v i wr => ∃ j : Nat, j ≤ 1 ∧ i = .int .i64 j ∧ Built vs w wr v (m + j)) (fun _ i _ => 1 - (intOf i).toNat)
          case atStart => exact ⟨0, by omega, rfl, HB.out⟩
          case round =>
            clear d1 d2
            obtain ⟨j, hj, rfl, hB⟩ := hrel
            have d3 := (hB.2.1.cell (p := ⟨R, 0, none⟩) l3).trans c3
            have d4 := (hB.2.1.cell (p := ⟨P, 3, none⟩) l4).trans c4
            have HB2 : Hid (Built vs w wr u8 (m + j)) := hB
            have hsz := hB.2.1.size
            by_cases hj0 : j = 0
            · subst hj0
              have hown := hB.1
              simp only [Nat.add_zero] at hown
              clear hB
              go_wp2_with (at_builtin; refine Lib.wpList_append_own_string _ rfl _ _ 25 9 rfl w.heap.size 5 i0 Try.underlying25 Try.underlying9 hi hz0 hz1 hz2 _ _ _ rfl hown (vs m) rfl (by unfold maxLen; omega) (by omega) (by omega) ?_)
              intro v' w2 hown' hgrow hnil
              have R := HB2.out.step hown' hgrow (fun e => (hnil.1 e).1)
              clear hown hown' hgrow hnil d3 d4
              go_wp2
              go_roundw
              case rel => exact ⟨1, by omega, rfl, R⟩
              case measure => simp [intOf]
            · obtain rfl : j = 1 := by omega
              clear hB
              go_wp2
              go_roundw
              case rel => exact ⟨m + 1, by omega, by go_num, HB2.out⟩
              case measure => simp [intOf]; omega
        · have e : m = k := by omega
          subst e
          obtain ⟨g', cap', hv, hconv⟩ := hB.back
          have hbE := hB.2.1
          rw [hv]
          clear hB hv hT
          go_wp2
          go_ret
          exact ⟨rfl, hbE⟩

set_option maxHeartbeats 2000000 in
set_option maxRecDepth 100000 in
theorem str18_none (T cap : Nat) (a : Option Addr) (vs : Nat → ByteArray) (w : World) (hT : w.cell? ⟨T, 0, none⟩ = some (.slice a 0 cap)) (hTl : T < w.heap.size) :
    Calls Try.prog 18 #[.pointer (some ⟨T, 0, none⟩)] w fun e w' => e = .returned (.string (catB vs 0)) ∧ Below w.heap.size w w' := by
  obtain ⟨i0, hi, hz0, hz1, hz2⟩ := info_parts info5
  go_enter Try.func18, Try.ntmps18
  go_wp2
  go_loop [3, 20] (fun s i => i = .int .i64 0 ∧ s = .int .i64 0) (fun _ _ => 0)
  case atStart => exact ⟨rfl, rfl⟩
  case round =>
    obtain ⟨rfl, rfl⟩ := hrel
    go_wp2_with (at_make; refine wpList_make_own _ rfl _ _ 25 rfl w.heap.size 5 i0 _ 1 Try.underlying25 hi hz0 hz1 .i64 .i64 _ 0 rfl rfl rfl (by rw [hz2]; omega) (by unfold maxLen; omega) (Nat.le_refl _) ?_)
    intro w1 hown1 hgrow1
    have hb1 : Below w.heap.size w w1 := (Below.refl _ _).grown hgrow1 (Nat.le_refl _) (by intro k hk; cases hk)
    have hT1 : w1.cell? ⟨T, 0, none⟩ = some (.slice a 0 cap) := (hb1.cell (p := ⟨T, 0, none⟩) hTl).trans hT
    have hok : Built vs w w1 (.slice (some ⟨w.heap.size, 0, none⟩) 0 0) 0 := ⟨hown1, hb1, by simp⟩
    clear hown1 hgrow1 hT
    go_wp2
    go_loopw [8, 49] (fun v i wr => i = .int .i64 0 ∧ Built vs w wr v 0) (fun _ _ _ => 0)
    case atStart => exact ⟨rfl, hok⟩
    case round =>
      clear hok hT1 hb1
      obtain ⟨rfl, hB⟩ := hrel
      obtain ⟨g', cap', hv, hconv⟩ := hB.back
      have hbE := hB.2.1
      have e0 : tot vs 0 = 0 := rfl
      rw [e0] at hv hconv
      rw [hv]
      clear hB hv e0
      go_wp2
      go_ret
      exact ⟨rfl, hbE⟩

theorem str18 (w0 w : World) (T n : Nat) (vs : Nat → ByteArray) (h : Txt w0 w T n vs) (hn : n ≤ 65536) (ht : tot vs n ≤ 1048576) :
    Calls Try.prog 18 #[.pointer (some ⟨T, 0, none⟩)] w fun e w' => e = .returned (.string (catB vs n)) ∧ Below w.heap.size w w' := by
  obtain ⟨a, cap, h1, h2, h3 | ⟨g, rfl, h4⟩⟩ := txt_reads h
  · subst h3; exact str18_none T cap a vs w h1 h2
  · exact str18_some T n cap g vs w hn ht h1 h2 h4

theorem str18_nil (w : World) : Calls Try.prog 18 #[.pointer none] w fun e w' => e = .returned (.string ⟨#[]⟩) ∧ w = w' := by
  go_enter Try.func18, Try.ntmps18
  go_wp2
  go_ret
  exact ⟨rfl, rfl⟩

end Go.Proofs.Qxb6616564a
