/-
  The arithmetic of the law: powers of two, the width of a node, the copy's cells.
-/
import Derived.Test.Qxb6617903aCall
import Derived.Laws.BitsLemmas
import Derived.Laws.CopyOwn
import Derived.Clock
import Derived.WalkLawsBesides
import Derived.WalkSpells
import Derived.Deep.QuietTactic
import Derived.BigQuiet
namespace Go.Proofs.Qxb6617903a
open Go.RowKit

theorem wraps_i64 (n : Int) (h₀ : 0 ≤ n) (h₁ : n < 2 ^ 63) : IntKind.i64.wrap n = n := by rw [IntKind.wrap_i64]; omega

theorem pow_of_bits {n : Nat} (h0 : 1 ≤ n) (hn : n ≤ 65536) (h : bits .and .i64 (n : Int) ((n : Int) - 1) = 0) : ∃ H, n = 2 ^ H := by
  have e : ((n : Int) - 1) = ((n - 1 : Nat) : Int) := by omega
  have hb := (bits_nat .i64 63 (by decide) wraps_i64 n (n - 1) (by omega) (by omega)).1
  rw [e, hb] at h
  have h' : n &&& (n - 1) = 0 := by exact_mod_cast h
  exact (Nat.and_sub_one_eq_zero_iff_isPowerOfTwo (by omega)).1 h'

/-- Node k, of the row whose first node is p, has W leaves, from slot (k - p) * W on. -/
theorem node_at {n p k : Nat} (hn : ∃ H, n = 2 ^ H) (hp : ∃ e, p = 2 ^ e) (h1 : p ≤ k) (h2 : k < 2 * p) (h3 : k < 2 * n) :
    ∃ h : Nat, n = 2 ^ h * p ∧ (n : Int) / (p : Int) = ((2 ^ h : Nat) : Int) ∧ ((k : Int) - (p : Int)) * ((2 ^ h : Nat) : Int) = (((k - p) * 2 ^ h : Nat) : Int) ∧ k * 2 ^ h = n + (k - p) * 2 ^ h ∧ (k - p) * 2 ^ h + 2 ^ h ≤ n := by
  obtain ⟨H, rfl⟩ := hn
  obtain ⟨e, rfl⟩ := hp
  have he : e ≤ H := by
    rcases Nat.lt_or_ge H e with h | h
    · have : 2 ^ (H + 1) ≤ 2 ^ e := Nat.pow_le_pow_right (by decide) h
      rw [Nat.pow_succ] at this
      omega
    · exact h
  have hpow : 2 ^ H = 2 ^ (H - e) * 2 ^ e := by rw [← Nat.pow_add, Nat.sub_add_cancel he]
  have hpos : 0 < 2 ^ e := Nat.two_pow_pos e
  refine ⟨H - e, hpow, ?_, ?_, ?_, ?_⟩
  · rw [← Int.natCast_ediv]
    rw [hpow, Nat.mul_div_cancel _ hpos]
  · rw [Int.natCast_mul, Int.natCast_sub h1]
  · have : k * 2 ^ (H - e) = (2 ^ e + (k - 2 ^ e)) * 2 ^ (H - e) := by rw [Nat.add_sub_cancel' h1]
    rw [this, Nat.add_mul, Nat.mul_comm (2 ^ e), ← hpow]
  · have : (k - 2 ^ e + 1) * 2 ^ (H - e) ≤ 2 ^ e * 2 ^ (H - e) := Nat.mul_le_mul_right _ (by omega)
    rw [Nat.add_mul, Nat.one_mul, Nat.mul_comm (2 ^ e), ← hpow] at this
    exact this

theorem pow_next {p : Nat} (h : ∃ e, p = 2 ^ e) : ∃ e, p * 2 = 2 ^ e := by
  obtain ⟨e, rfl⟩ := h
  exact ⟨e + 1, rfl⟩

theorem tree_next {L : Nat → Int} {k : Nat} (h : ∀ i, 1 ≤ i → i < k → L i ≤ L (2 * i) ∧ L i ≤ L (2 * i + 1)) (h1 : L k ≤ L (2 * k)) (h2 : L k ≤ L (2 * k + 1)) : ∀ i, 1 ≤ i → i < k + 1 → L i ≤ L (2 * i) ∧ L i ≤ L (2 * i + 1) := by
  intro i hi1 hi2
  by_cases e : i = k
  · subst e; exact ⟨h1, h2⟩
  · exact h i hi1 (by omega)

/-- The scan's steps. -/
theorem scan_hit {L : Nat → Int} {n : Nat} {key A : Int} {hi a : Nat} (h : fsc L n key (hi - a) a = A) (hlt : a < hi) (hk : L (n + a) ≤ key) : A = a := by
  rw [show hi - a = (hi - a - 1) + 1 by omega] at h
  simp only [fsc] at h
  rw [if_pos hk] at h
  exact h.symm
theorem scan_miss {L : Nat → Int} {n : Nat} {key A : Int} {hi a : Nat} (h : fsc L n key (hi - a) a = A) (hlt : a < hi) (hk : key < L (n + a)) : fsc L n key (hi - (a + 1)) (a + 1) = A := by
  rw [show hi - a = (hi - (a + 1)) + 1 by omega] at h
  simp only [fsc] at h
  rw [if_neg (by omega)] at h
  exact h
theorem scan_end {L : Nat → Int} {n : Nat} {key A : Int} {hi a : Nat} (h : fsc L n key (hi - a) a = A) (hge : hi ≤ a) : A = -1 := by
  rw [show hi - a = 0 by omega] at h
  exact h.symm
theorem ans_lo {L : Nat → Int} {n : Nat} {key frm : Int} {lo hi : Nat} (h : frm ≤ lo) : fsc L n key (hi - lo) lo = ans L n key frm lo hi := by
  unfold ans; rw [show max lo frm.toNat = lo by omega]
theorem ans_frm {L : Nat → Int} {n : Nat} {key : Int} {frm lo hi : Nat} (h : lo < frm) : fsc L n key (hi - frm) frm = ans L n key (frm : Int) lo hi := by
  unfold ans; rw [show max lo (frm : Int).toNat = frm by omega]

theorem fb13' (g n len cap h k lo hi : Nat) (L : Nat → Int) (frm key : Int) (w : World) (hl : len = 2 * n) (hn : n ≤ 65536) (hg : g < w.heap.size)
    (hc : Hid (∀ j, j < len → w.cell? ⟨g, j, none⟩ = some (.int .i64 (L j)))) (ht : Hid (Tree L n)) (h1 : 1 ≤ k) (hk : k * 2 ^ h = n + lo) (hh : hi = lo + 2 ^ h) (hhi : hi ≤ n) :
    Calls Try.prog 13 #[.slice (some ⟨g, 0, none⟩) len cap, .int .i64 k, .int .i64 lo, .int .i64 hi, .int .i64 frm, .int .i64 key] w fun e w' => e = .returned (.int .i64 (ans L n key frm lo hi)) ∧ Below w.heap.size w w' := by
  subst hl
  exact fb13 g n cap h k lo hi L frm key w hn hg hc ht h1 hk hh hhi

/-- The copy. -/
def row (len : Nat) (L : Nat → Int) : List Value := (List.range len).map fun j => .int .i64 (L j)
theorem row_length (len : Nat) (L : Nat → Int) : (row len L).length = len := by simp [row]
theorem row_one (len : Nat) (L : Nat → Int) : ∀ u ∈ row len L, u.oneCell' = true := by
  intro u hu; obtain ⟨x, _, rfl⟩ := List.mem_map.1 hu; rfl

theorem neq22 (w : World) (a : Option Addr) (n c n' c' : Nat) : (binOp .neq 22 (.slice a n c) (.slice none n' c')).run Try.prog w = .ok (.bool (!a.isNone)) w :=
  run_neq_slice_nil_any w 22 2 a n c n' c' Try.underlying22

theorem size2 : (Try.prog.info? 2).map (·.size) = some 1 := by kernel_rfl
theorem info2 : (Try.prog.info? 2).map (fun i => (i.zero, i.size, i.bytes)) = some (some (.int .i64 0), 1, 8) := by kernel_rfl
theorem info_parts {t : TypeId} {z : Value} {s b : Nat} (h : (Try.prog.info? t).map (fun i => (i.zero, i.size, i.bytes)) = some (some z, s, b)) :
    ∃ i, Try.prog.info? t = some i ∧ i.zero = some z ∧ i.size = s ∧ i.bytes = b := by
  obtain ⟨i, hi, e⟩ := Option.map_eq_some_iff.1 h
  simp only [Prod.mk.injEq] at e
  exact ⟨i, hi, e.1, e.2.1, e.2.2⟩

theorem made_block {w : World} {base : Nat} {g n : Nat} {xs : List Value} (h : w.ownsRow base 2 1 (.slice (some ⟨g, 0, none⟩) n n) n xs) :
    ∃ cur : List Value, w.heap[g]? = some (.cells cur.toArray 2 (0, 0)) ∧ cur.length = n := by
  rcases h.2 with ⟨h', _⟩ | ⟨g', cap', cur, h', _, hg, _, _, hcs, _⟩
  · simp at h'
  · simp only [Value.slice.injEq, Option.some.injEq, Addr.mk.injEq, and_true, true_and] at h'
    obtain ⟨rfl, rfl⟩ := h'
    exact ⟨cur.toList, by simpa using hg, by simpa using hcs⟩

theorem add_block (x : Addr) (j : Nat) : (x.add j).block = x.block := by unfold Addr.add; split <;> rfl

theorem copied_src {w w1 : World} {x : Addr} {len : Nat} {L : Nat → Int} (hs : ∀ j, j < len → w.cell? (x.add j) = some (.int .i64 (L j))) (hb : Below w.heap.size w w1) :
    ∀ j v, (row len L)[j]? = some v → w1.cell? (x.add j) = some v := by
  intro j u hu
  unfold row at hu
  rw [List.getElem?_map] at hu
  obtain ⟨i, hi, rfl⟩ := Option.map_eq_some_iff.1 hu
  obtain ⟨hj, e⟩ := List.getElem?_eq_some_iff.1 hi
  have hjl : j < len := by simpa using hj
  have hij : j = i := by simpa using e
  subst hij
  have hc := hs j hjl
  rw [hb.cell (p := x.add j) (Go.Clock.block_lt hc)]
  exact hc

theorem copied_cells {w2 : World} {g len : Nat} {cur : List Value} {L : Nat → Int} (hlen : cur.length = len)
    (h : w2.heap[g]? = some (.cells (splice cur 0 (row len L)).toArray 2 (0, 0))) :
    (∀ j, j < len → w2.cell? ⟨g, j, none⟩ = some (.int .i64 (L j))) ∧ g < w2.heap.size := by
  have e : splice cur 0 (row len L) = row len L := by
    unfold splice
    simp [row_length, hlen]
  rw [e] at h
  refine ⟨fun j hj => ?_, ?_⟩
  · rw [cell_of_row w2 g j _ 2 (0, 0) h]
    simp [row, hj]
  · rcases Nat.lt_or_ge g w2.heap.size with hlt | hge
    · exact hlt
    · rw [Array.getElem?_eq_none hge] at h; cases h

end Go.Proofs.Qxb6617903a
