/-
  ZZnewText (14), ZZtextAddPiece (16).
-/
import Derived.Test.Qxb6616564aGuards
import Derived.Deep.AppendLies
namespace Go.Proofs.Qxb6616564a
open Go.RowKit

theorem new14 (w : World) : Calls Try.prog 14 #[] w fun e w' => e = .returned (.pointer (some ⟨w.heap.size, 0, none⟩)) ∧ w' = w.alloc (.cells #[.slice none 0 0, .int .i64 0, .map none, .slice none 0 0] 49) := by
  go_enter Try.func14, Try.ntmps14
  go_wp2
  go_ret
  exact ⟨rfl, rfl⟩

theorem info50 : (Try.prog.info? 50).map (fun i => (i.zero, i.size, i.bytes)) = some (some (.pointer none), 1, 8) := by kernel_rfl

/-- The three blocks of a new piece, and the cell that append lays. -/
def chunkO (H : Nat) (x y : Value) : Obj := .cells #[.slice (some ⟨H + 1 + 1, 0, none⟩) 1 1, x, y] 52
def pieceO (H : Nat) (idN r : Int) (s : ByteArray) (d : Bool) : Obj :=
  .cells #[.int .u32 1, .int .u64 idN, .int .u64 r, .string s, .bool d, .int .u32 0, .int .u64 0, .int .u32 0, .int .u64 0, .pointer (some ⟨H, 0, none⟩), .pointer none, .slice none 0 0, .slice none 0 0] 58
def ppO (H : Nat) : Obj := .cells #[.pointer (some ⟨H + 1, 0, none⟩)] 53
def lastO (H : Nat) : Obj := .cells #[.pointer (some ⟨H, 0, none⟩)] 50

/-- What the call leaves: W0: the world ahead of it, t.visible raised or not. -/
def W3 (w : World) (x y : Value) (idN r : Int) (s : ByteArray) (d : Bool) : World := ((w.alloc (chunkO w.heap.size x y)).alloc (pieceO w.heap.size idN r s d)).alloc (ppO w.heap.size)
def Added (w W0 : World) (T base n : Nat) (v : Value) (xs : List Value) (w' : World) : Prop :=
  ∃ v' w1, w' = w1.setCell ⟨T, 0, none⟩ v' ∧ w1.ownsRow base 50 1 v' (n + 1) (xs ++ [.pointer (some ⟨w.heap.size, 0, none⟩)]) ∧ (W0.alloc (lastO w.heap.size)).grownBy w1 v.ownBlock

theorem own_ne {w : World} {base n : Nat} {v : Value} {xs : List Value} {T t : Nat} {cs : Array Value} (h : w.ownsRow base 50 1 v n xs) (hT : w.heap[T]? = some (.cells cs t (0, 0))) (ht : t ≠ 50) : some T ≠ v.ownBlock := by
  rcases h.2 with ⟨rfl, _⟩ | ⟨g, cap, cur, rfl, _, hg, _⟩
  · simp [Value.ownBlock]
  · simp only [Value.ownBlock]
    intro e
    have e' : T = g := Option.some.inj e
    subst e'
    rw [hT] at hg
    simp at hg
    exact ht hg.2

theorem news3X (w : World) (T : Nat) (X : Value) (o1 o2 o3 : Obj) (j : Nat) (u : Value) (h : [Value.pointer (some ⟨w.heap.size, 0, none⟩)][j]? = some u) :
    (((((w.alloc o1).alloc o2).alloc o3).setCell ⟨T, 1, none⟩ X).alloc (.cells #[.pointer (some ⟨w.heap.size, 0, none⟩)] 50)).cell? ((⟨w.heap.size + 1 + 1 + 1, 0, none⟩ : Addr).add j) = some u := by
  have := cell_one_new ((((w.alloc o1).alloc o2).alloc o3).setCell ⟨T, 1, none⟩ X) (.pointer (some ⟨w.heap.size, 0, none⟩)) 50 j u h
  simpa using this

theorem news3 (w : World) (o1 o2 o3 : Obj) (j : Nat) (u : Value) (h : [Value.pointer (some ⟨w.heap.size, 0, none⟩)][j]? = some u) :
    ((((w.alloc o1).alloc o2).alloc o3).alloc (.cells #[.pointer (some ⟨w.heap.size, 0, none⟩)] 50)).cell? ((⟨w.heap.size + 1 + 1 + 1, 0, none⟩ : Addr).add j) = some u := by
  have := cell_one_new (((w.alloc o1).alloc o2).alloc o3) (.pointer (some ⟨w.heap.size, 0, none⟩)) 50 j u h
  simpa using this

set_option maxHeartbeats 1000000 in
theorem add16_del (T base n cap : Nat) (a : Option Addr) (xs : List Value) (vis idN r : Int) (s : ByteArray) (w : World) (hn : n ≤ 65536)
    (hT : w.heap[T]? = some (.cells #[.slice a n cap, .int .i64 vis, .map none, .slice none 0 0] 49 (0, 0))) (hown : w.ownsRow base 50 1 (.slice a n cap) n xs) (hb : base ≤ w.heap.size) :
    Calls Try.prog 16 #[.pointer (some ⟨T, 0, none⟩), .int .u64 idN, .int .u64 r, .string s, .bool true] w fun e w' => e = .returned (.tuple #[]) ∧ Added w (W3 w (.int .i64 0) (.int .i64 n) idN r s true) T base n (.slice a n cap) xs w' := by
  obtain ⟨i0, hi, hz0, hz1, hz2⟩ := info_parts info50
  have hlt := lt_of_block hT
  have h0 : w.cell? ⟨T, 0, none⟩ = some (.slice a n cap) := by rw [cell_of_row w T 0 _ _ _ hT]; rfl
  have h3 : ∀ o1 o2 o3, (((w.alloc o1).alloc o2).alloc o3).cell? ⟨T, 0, none⟩ = some (.slice a n cap) := fun o1 o2 o3 => by
    rw [World.cell?_alloc_old _ _ _ (by simp; omega), World.cell?_alloc_old _ _ _ (by simp; omega), World.cell?_alloc_old _ _ _ (by simp; omega)]; exact h0
  have HT := hT
  clear hT
  have HT' : Hid (w.heap[T]? = some (.cells #[.slice a n cap, .int .i64 vis, .map none, .slice none 0 0] 49 (0, 0))) := HT
  clear HT
  go_enter Try.func16, Try.ntmps16
  go_wp2_with (at_builtin; refine wpList_append_own _ rfl _ _ 45 rfl base 50 i0 _ 1 8 Try.underlying45 hi hz0 hz1 hz2 rfl (by decide) _ _ _ rfl ((((hown.alloc _).alloc _).alloc _).alloc _) ⟨w.heap.size + 1 + 1 + 1, 0, none⟩ 1 1 [.pointer (some ⟨w.heap.size, 0, none⟩)] rfl rfl (news3 w _ _ _) (by intro u hu; simp at hu; subst hu; rfl) (by unfold maxLen; omega) (by omega) (by simp; omega) ?_)
  intro v' w1 hown' hgrow _
  obtain ⟨g', cap', hv, -, -⟩ := hown'.form (by omega)
  rw [hv] at hown' ⊢
  clear hv
  have hT1 : w1.heap[T]? = some (.cells #[.slice a n cap, .int .i64 vis, .map none, .slice none 0 0] 49 (0, 0)) := by
    rw [hgrow.block T (by simp; omega) (own_ne hown HT'.out (by decide)), heap_alloc_old _ _ (by simp; omega), heap_alloc_old _ _ (by simp; omega), heap_alloc_old _ _ (by simp; omega), heap_alloc_old _ _ (by omega)]
    exact HT'.out
  have c1 : w1.cell? ⟨T, 0, none⟩ = some (.slice a n cap) := by rw [cell_of_row w1 T 0 _ _ _ hT1]; rfl
  have f1 : w1.frozen? ⟨T, 0, none⟩ = false := frozen_of_row w1 T 0 _ _ hT1
  have HO : Hid (w1.ownsRow base 50 1 (.slice (some ⟨g', 0, none⟩) (n + 1) cap') (n + 1) (xs ++ [.pointer (some ⟨w.heap.size, 0, none⟩)])) := hown'
  have HG : Hid (((W3 w (.int .i64 0) (.int .i64 n) idN r s true).alloc (lastO w.heap.size)).grownBy w1 (Value.slice a n cap).ownBlock) := hgrow
  clear hown' hgrow hown h3 h0 hT1 HT'
  go_wp2
  go_end0
  exact ⟨rfl, _, w1, rfl, HO.out, HG.out⟩

set_option maxHeartbeats 1000000 in
theorem add16_vis (T base n cap : Nat) (a : Option Addr) (xs : List Value) (vis idN r : Int) (s : ByteArray) (w : World) (hn : n ≤ 65536) (hr0 : 0 ≤ r) (hr1 : r ≤ 1048576)
    (hT : w.heap[T]? = some (.cells #[.slice a n cap, .int .i64 vis, .map none, .slice none 0 0] 49 (0, 0))) (hown : w.ownsRow base 50 1 (.slice a n cap) n xs) (hb : base ≤ w.heap.size) :
    Calls Try.prog 16 #[.pointer (some ⟨T, 0, none⟩), .int .u64 idN, .int .u64 r, .string s, .bool false] w fun e w' => e = .returned (.tuple #[]) ∧ ∃ X : Int, Added w ((W3 w (.int .i64 r) (.int .i64 n) idN r s false).setCell ⟨T, 1, none⟩ (.int .i64 X)) T base n (.slice a n cap) xs w' := by
  obtain ⟨i0, hi, hz0, hz1, hz2⟩ := info_parts info50
  have hlt := lt_of_block hT
  have h0 : w.cell? ⟨T, 0, none⟩ = some (.slice a n cap) := by rw [cell_of_row w T 0 _ _ _ hT]; rfl
  have h3 : ∀ o1 o2 o3, (((w.alloc o1).alloc o2).alloc o3).cell? ⟨T, 0, none⟩ = some (.slice a n cap) := fun o1 o2 o3 => by
    rw [World.cell?_alloc_old _ _ _ (by simp; omega), World.cell?_alloc_old _ _ _ (by simp; omega), World.cell?_alloc_old _ _ _ (by simp; omega)]; exact h0
  have h1 : w.cell? ⟨T, 1, none⟩ = some (.int .i64 vis) := by rw [cell_of_row w T 1 _ _ _ hT]; rfl
  have h13 : ∀ o1 o2 o3, (((w.alloc o1).alloc o2).alloc o3).cell? ⟨T, 1, none⟩ = some (.int .i64 vis) := fun o1 o2 o3 => by
    rw [World.cell?_alloc_old _ _ _ (by simp; omega), World.cell?_alloc_old _ _ _ (by simp; omega), World.cell?_alloc_old _ _ _ (by simp; omega)]; exact h1
  have f0 : w.frozen? ⟨T, 1, none⟩ = false := frozen_of_row w T 1 _ _ hT
  have f13 : ∀ o1 o2 o3, (((w.alloc o1).alloc o2).alloc o3).frozen? ⟨T, 1, none⟩ = false := fun o1 o2 o3 => by
    rw [World.frozen?_alloc_old _ _ _ (by simp; omega), World.frozen?_alloc_old _ _ _ (by simp; omega), World.frozen?_alloc_old _ _ _ (by simp; omega)]; exact f0
  have hownX : ∀ X o1 o2 o3, ((((w.alloc o1).alloc o2).alloc o3).setCell ⟨T, 1, none⟩ X).ownsRow base 50 1 (.slice a n cap) n xs := fun X o1 o2 o3 => ownsRow_setCell_other (((hown.alloc _).alloc _).alloc _) (fun e => own_ne hown hT (by decide) e.symm) X
  have HT' : Hid (w.heap[T]? = some (.cells #[.slice a n cap, .int .i64 vis, .map none, .slice none 0 0] 49 (0, 0))) := hT
  clear hT
  go_enter Try.func16, Try.ntmps16
  go_wp2_with (at_builtin; refine wpList_append_own _ rfl _ _ 45 rfl base 50 i0 _ 1 8 Try.underlying45 hi hz0 hz1 hz2 rfl (by decide) _ _ _ rfl ((hownX _ _ _ _).alloc _) ⟨w.heap.size + 1 + 1 + 1, 0, none⟩ 1 1 [.pointer (some ⟨w.heap.size, 0, none⟩)] rfl rfl (news3X w T _ _ _ _) (by intro u hu; simp at hu; subst hu; rfl) (by unfold maxLen; omega) (by omega) (by simp; omega) ?_)
  intro v' w1 hown' hgrow _
  obtain ⟨g', cap', hv, -, -⟩ := hown'.form (by omega)
  rw [hv] at hown' ⊢
  clear hv
  have hT1 : w1.heap[T]? = some (.cells #[.slice a n cap, .int .i64 (wrap64 (vis + r)), .map none, .slice none 0 0] 49 (0, 0)) := by
    rw [hgrow.block T (by simp; omega) (own_ne hown HT'.out (by decide)), heap_alloc_old _ _ (by simp; omega), heap_setCell_same _ T 1 #[.slice a n cap, .int .i64 vis, .map none, .slice none 0 0] 49 _ (by
      rw [heap_alloc_old _ _ (by simp; omega), heap_alloc_old _ _ (by simp; omega), heap_alloc_old _ _ (by omega)]
      exact HT'.out)]
    rfl
  have c1 : w1.cell? ⟨T, 0, none⟩ = some (.slice a n cap) := by rw [cell_of_row w1 T 0 _ _ _ hT1]; rfl
  have f1 : w1.frozen? ⟨T, 0, none⟩ = false := frozen_of_row w1 T 0 _ _ hT1
  have HO : Hid (w1.ownsRow base 50 1 (.slice (some ⟨g', 0, none⟩) (n + 1) cap') (n + 1) (xs ++ [.pointer (some ⟨w.heap.size, 0, none⟩)])) := hown'
  have HG : Hid (∃ X : Int, (((W3 w (.int .i64 r) (.int .i64 n) idN r s false).setCell ⟨T, 1, none⟩ (.int .i64 X)).alloc (lastO w.heap.size)).grownBy w1 (Value.slice a n cap).ownBlock) := ⟨_, hgrow⟩
  clear hown' hgrow hown h3 h0 hT1 HT' h1 h13 f0 f13 hownX
  go_wp2
  go_end0
  obtain ⟨X, HX⟩ := HG.out
  exact ⟨rfl, X, _, w1, rfl, HO.out, HX⟩

end Go.Proofs.Qxb6616564a
