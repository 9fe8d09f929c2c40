/-
  A text in memory: what the walks carry of it, and that adding a piece keeps it.
-/
import Derived.Test.Qxb6616564aAdd
namespace Go.Proofs.Qxb6616564a
open Go.RowKit

/-- A chunk of one piece, whose text is s. -/
def Node (w : World) (p : Value) (s : ByteArray) : Prop :=
  ∃ C R P x1 x2 cs, p = .pointer (some ⟨C, 0, none⟩) ∧ w.heap[C]? = some (.cells #[.slice (some ⟨R, 0, none⟩) 1 1, x1, x2] 52 (0, 0)) ∧
    w.heap[R]? = some (.cells #[.pointer (some ⟨P, 0, none⟩)] 53 (0, 0)) ∧ w.heap[P]? = some (.cells cs 58 (0, 0)) ∧ cs[3]? = some (.string s)

/-- The text at block T holds n pieces, vs 0 .. vs (n-1). -/
def Txt (w0 w : World) (T n : Nat) (vs : Nat → ByteArray) : Prop :=
  ∃ a cap vis xs, w.heap[T]? = some (.cells #[.slice a n cap, .int .i64 vis, .map none, .slice none 0 0] 49 (0, 0)) ∧ w.ownsRow w0.heap.size 50 1 (.slice a n cap) n xs ∧
    (∀ j, j < n → ∃ p, xs[j]? = some p ∧ Node w p (vs j)) ∧ Below w0.heap.size w0 w ∧ w0.heap.size ≤ T

theorem Node.keep {w w' : World} {p : Value} {s : ByteArray} (h : Node w p s)
    (hk : ∀ (k : Nat) (cs : Array Value) (t : TypeId), w.heap[k]? = some (.cells cs t (0, 0)) → t ≠ 49 → t ≠ 50 → w'.heap[k]? = some (.cells cs t (0, 0))) : Node w' p s := by
  obtain ⟨C, R, P, x1, x2, cs, hp, h1, h2, h3, h4⟩ := h
  exact ⟨C, R, P, x1, x2, cs, hp, hk _ _ _ h1 (by decide) (by decide), hk _ _ _ h2 (by decide) (by decide), hk _ _ _ h3 (by decide) (by decide), h4⟩

theorem txt_new (w0 : World) (vs : Nat → ByteArray) : Txt w0 (w0.alloc (.cells #[.slice none 0 0, .int .i64 0, .map none, .slice none 0 0] 49)) w0.heap.size 0 vs :=
  ⟨none, 0, 0, [], heap_alloc_new _ _, World.ownsRow_nil _ _ _ _, fun _ hj => absurd hj (Nat.not_lt_zero _), (Below.refl _ _).alloc (Nat.le_refl _) _, Nat.le_refl _⟩

/-- What the two ways of adding have in common: W0 is the old world, with the piece's three blocks, t.visible perhaps raised. -/
structure Mid (w W0 : World) (T : Nat) (v : Value) (s : ByteArray) : Prop where
  size : W0.heap.size = w.heap.size + 1 + 1 + 1
  old : ∀ (k : Nat) (cs : Array Value) (t : TypeId), w.heap[k]? = some (.cells cs t (0, 0)) → t ≠ 49 → W0.heap[k]? = some (.cells cs t (0, 0))
  top : ∃ X : Int, W0.heap[T]? = some (.cells #[v, .int .i64 X, .map none, .slice none 0 0] 49 (0, 0))
  node : Node W0 (.pointer (some ⟨w.heap.size, 0, none⟩)) s
  below : ∀ B, B ≤ T → B ≤ w.heap.size → Below B w W0

theorem size_W3 (w : World) (x y : Value) (idN r : Int) (s : ByteArray) (d : Bool) : (W3 w x y idN r s d).heap.size = w.heap.size + 1 + 1 + 1 := by simp [W3]

theorem old_W3 (w : World) (x y : Value) (idN r : Int) (s : ByteArray) (d : Bool) {k : Nat} {o : Obj} (h : w.heap[k]? = some o) : (W3 w x y idN r s d).heap[k]? = some o := by
  have hlt := lt_of_block h
  unfold W3
  rw [heap_alloc_old _ _ (by simp; omega), heap_alloc_old _ _ (by simp; omega), heap_alloc_old _ _ hlt]; exact h

theorem node_W3 (w : World) (x y : Value) (idN r : Int) (s : ByteArray) (d : Bool) : Node (W3 w x y idN r s d) (.pointer (some ⟨w.heap.size, 0, none⟩)) s := by
  refine ⟨w.heap.size, w.heap.size + 1 + 1, w.heap.size + 1, x, y, #[.int .u32 1, .int .u64 idN, .int .u64 r, .string s, .bool d, .int .u32 0, .int .u64 0, .int .u32 0, .int .u64 0, .pointer (some ⟨w.heap.size, 0, none⟩), .pointer none, .slice none 0 0, .slice none 0 0], rfl, ?_, ?_, ?_, ?_⟩
  · unfold W3
    rw [heap_alloc_old _ _ (by simp; omega), heap_alloc_old _ _ (by simp), heap_alloc_new]; rfl
  · unfold W3
    have e : ((w.alloc (chunkO w.heap.size x y)).alloc (pieceO w.heap.size idN r s d)).heap.size = w.heap.size + 1 + 1 := by simp
    rw [← e, heap_alloc_new]; rfl
  · unfold W3
    rw [heap_alloc_old _ _ (by simp)]
    have e : (w.alloc (chunkO w.heap.size x y)).heap.size = w.heap.size + 1 := by simp
    rw [← e, heap_alloc_new]; rfl
  · rfl

theorem below_W3 (w : World) (x y : Value) (idN r : Int) (s : ByteArray) (d : Bool) (B : Nat) (hB : B ≤ w.heap.size) : Below B w (W3 w x y idN r s d) := by
  unfold W3
  exact (((Below.refl _ _).alloc hB _).alloc (by simp; omega) _).alloc (by simp; omega) _

theorem mid_del {w : World} {T : Nat} {v : Value} {vis : Int} (hT : w.heap[T]? = some (.cells #[v, .int .i64 vis, .map none, .slice none 0 0] 49 (0, 0))) (x y : Value) (idN r : Int) (s : ByteArray) (d : Bool) :
    Mid w (W3 w x y idN r s d) T v s :=
  ⟨size_W3 .., fun _ _ _ h _ => old_W3 w x y idN r s d h, ⟨vis, old_W3 w x y idN r s d hT⟩, node_W3 .., fun B _ hB => below_W3 w x y idN r s d B hB⟩

theorem mid_vis {w : World} {T : Nat} {v : Value} {vis : Int} (hT : w.heap[T]? = some (.cells #[v, .int .i64 vis, .map none, .slice none 0 0] 49 (0, 0))) (x y : Value) (idN r : Int) (s : ByteArray) (d : Bool) (X : Int) :
    Mid w ((W3 w x y idN r s d).setCell ⟨T, 1, none⟩ (.int .i64 X)) T v s := by
  have hT3 := old_W3 w x y idN r s d hT
  have other : ∀ (k : Nat) (cs : Array Value) (t : TypeId), (W3 w x y idN r s d).heap[k]? = some (.cells cs t (0, 0)) → t ≠ 49 → ((W3 w x y idN r s d).setCell ⟨T, 1, none⟩ (.int .i64 X)).heap[k]? = some (.cells cs t (0, 0)) := by
    intro k cs t h ht
    rw [heap_setCell_other]
    · exact h
    · rintro rfl
      rw [hT3] at h; simp at h; exact ht h.2.symm
  refine ⟨by simp [size_W3], fun k cs t h ht => other k cs t (old_W3 w x y idN r s d h) ht, ⟨X, ?_⟩, (node_W3 w x y idN r s d).keep fun k cs t h h1 _ => other k cs t h h1, fun B hBT hB => (below_W3 w x y idN r s d B hB).setCell (by exact hBT) _⟩
  rw [heap_setCell_same _ T 1 _ 49 _ hT3]; rfl

theorem txt_add {w0 w W0 w' : World} {T n cap : Nat} {a : Option Addr} {vis : Int} {xs : List Value} {vs : Nat → ByteArray}
    (hT : w.heap[T]? = some (.cells #[.slice a n cap, .int .i64 vis, .map none, .slice none 0 0] 49 (0, 0))) (hown : w.ownsRow w0.heap.size 50 1 (.slice a n cap) n xs)
    (hx : ∀ j, j < n → ∃ p, xs[j]? = some p ∧ Node w p (vs j)) (hb : Below w0.heap.size w0 w) (hBT : w0.heap.size ≤ T)
    (hM : Mid w W0 T (.slice a n cap) (vs n)) (hA : Added w W0 T w0.heap.size n (.slice a n cap) xs w') : Txt w0 w' T (n + 1) vs := by
  obtain ⟨v', w1, rfl, hown', hg⟩ := hA
  obtain ⟨X, hTop⟩ := hM.top
  obtain ⟨g', cap', rfl, hg'1, -⟩ := hown'.form (by omega)
  have hBw := hb.size
  -- v's row in W0
  have hownW : W0.ownsRow w0.heap.size 50 1 (.slice a n cap) n xs := by
    refine ⟨hown.1, ?_⟩
    rcases hown.2 with h | ⟨g, c, cur, hv, h1, h2, h3⟩
    · exact .inl h
    · exact .inr ⟨g, c, cur, hv, h1, hM.old _ _ _ h2 (by decide), h3⟩
  have step : ∀ (k : Nat) (cs : Array Value) (t : TypeId), W0.heap[k]? = some (.cells cs t (0, 0)) → t ≠ 50 → w1.heap[k]? = some (.cells cs t (0, 0)) := by
    intro k cs t h ht
    have hlt := lt_of_block h
    rw [hg.block k (by simp; omega) (own_ne hownW h ht), heap_alloc_old _ _ hlt]; exact h
  have hT1 := step T _ _ hTop (by decide)
  have fin : ∀ (k : Nat) (cs : Array Value) (t : TypeId), W0.heap[k]? = some (.cells cs t (0, 0)) → t ≠ 49 → t ≠ 50 → (w1.setCell ⟨T, 0, none⟩ (.slice (some ⟨g', 0, none⟩) (n + 1) cap')).heap[k]? = some (.cells cs t (0, 0)) := by
    intro k cs t h h1 h2
    rw [heap_setCell_other]
    · exact step k cs t h h2
    · rintro rfl
      rw [hTop] at h; simp at h; exact h1 h.2.symm
  refine ⟨some ⟨g', 0, none⟩, cap', X, _, ?_, ownsRow_setCell_other hown' (fun e => own_ne hown' hT1 (by decide) e.symm) _, ?_, ?_, hBT⟩
  · rw [heap_setCell_same _ T 0 _ 49 _ hT1]; rfl
  · intro j hj
    by_cases e : j = n
    · subst e
      refine ⟨_, ?_, hM.node.keep fin⟩
      have hl : xs.length = j := by have := hown.1; omega
      rw [List.getElem?_append_right (by omega), hl]; simp
    · obtain ⟨p, hp, hN⟩ := hx j (by omega)
      refine ⟨p, ?_, hN.keep fun k cs t h h1 h2 => fin k cs t (hM.old k cs t h h1) h1 h2⟩
      rw [List.getElem?_append_left]
      · exact hp
      · have := (List.getElem?_eq_some_iff.1 hp).1; exact this
  · have b1 := hb.trans (hM.below _ hBT hBw)
    have b2 : Below w0.heap.size w0 (W0.alloc (lastO w.heap.size)) := b1.alloc (by have := hM.size; omega) _
    have b3 := b2.grown hg (by have := hM.size; simp; omega) (fun k hk => by
      rcases hown.2 with ⟨h, _⟩ | ⟨g, c, cur, hv, h1, _⟩
      · rw [h] at hk; simp [Value.ownBlock] at hk
      · rw [hv] at hk; simp [Value.ownBlock] at hk; omega)
    exact b3.setCell (by exact hBT) _

end Go.Proofs.Qxb6616564a
