/-
  (*text).read (17), ZZtextRead (10), ZZvalueParts (9).
-/
import Derived.Test.Qxb6616564aStr
namespace Go.Proofs.Qxb6616564a
open Go.RowKit

theorem bcell {W w1 : World} (hb : Below W.heap.size W w1) : (∀ b o, b < W.heap.size → w1.cell? ⟨b, o, none⟩ = W.cell? ⟨b, o, none⟩) ∧ (∀ b o, b < W.heap.size → w1.frozen? ⟨b, o, none⟩ = W.frozen? ⟨b, o, none⟩) :=
  ⟨fun b o h => hb.cell (p := ⟨b, o, none⟩) h, fun b o h => hb.frozen (p := ⟨b, o, none⟩) h⟩

theorem txt_alloc {w0 w : World} {T n : Nat} {vs : Nat → ByteArray} (h : Txt w0 w T n vs) (o : Obj) : Txt w0 (w.alloc o) T n vs := by
  obtain ⟨a, cap, vis, xs, hT, hown, hx, hb, hBT⟩ := h
  have keep : ∀ k x, w.heap[k]? = some x → (w.alloc o).heap[k]? = some x := fun k x h => by rw [heap_alloc_old _ _ (lt_of_block h)]; exact h
  exact ⟨a, cap, vis, xs, keep _ _ hT, hown.alloc _, fun j hj => by obtain ⟨p, hp, hN⟩ := hx j hj; exact ⟨p, hp, hN.keep fun k cs t h _ _ => keep _ _ h⟩, hb.alloc hb.size _, hBT⟩

/-- A text's value. -/
def val (s : ByteArray) : Value := .agg #[.int .u8 5, .int .u64 0, .string s, .pointer none]

def zero35 : Obj := .cells #[.int .u8 0, .int .u64 0, .string ⟨#[]⟩, .pointer none] 35

set_option maxHeartbeats 1000000 in
theorem read17 (p : Value) (s : ByteArray) (w : World) (h : Calls Try.prog 18 #[p] (w.alloc zero35) fun e w' => e = .returned (.string s) ∧ Below (w.alloc zero35).heap.size (w.alloc zero35) w') :
    Calls Try.prog 17 #[p] w fun e w' => e = .returned (val s) ∧ Below w.heap.size w w' := by
  go_enter Try.func17, Try.ntmps17
  go_wp2_with fail
  refine h.mono ?_
  rintro e w1 ⟨rfl, hb⟩
  have hB : w1.heap[w.heap.size]? = some (.cells #[.int .u8 0, .int .u64 0, .string ⟨#[]⟩, .pointer none] 35 (0, 0)) := by
    rw [hb.block w.heap.size (by simp), heap_alloc_new]; rfl
  have c0 : w1.cell? ⟨w.heap.size, 0, none⟩ = some (.int .u8 0) := by rw [cell_of_row _ _ _ _ _ _ hB]; rfl
  have c1 : w1.cell? ⟨w.heap.size, 1, none⟩ = some (.int .u64 0) := by rw [cell_of_row _ _ _ _ _ _ hB]; rfl
  have c2 : w1.cell? ⟨w.heap.size, 2, none⟩ = some (.string ⟨#[]⟩) := by rw [cell_of_row _ _ _ _ _ _ hB]; rfl
  have c3 : w1.cell? ⟨w.heap.size, 3, none⟩ = some (.pointer none) := by rw [cell_of_row _ _ _ _ _ _ hB]; rfl
  have f : ∀ i, w1.frozen? ⟨w.heap.size, i, none⟩ = false := fun i => frozen_of_row _ _ _ _ _ hB
  have hbE : Below w.heap.size w w1 := ((Below.refl _ _).alloc (Nat.le_refl _) _).trans (hb.mono (by simp))
  have hz : w.heap.size < w1.heap.size := by have := hb.size; simp at this; omega
  clear hb hB h
  go_wp2
  exact bodyPost_ret (v := val s) (by simp [results, Try.results17, go_sem, val, c0, c1, c2, c3]) rfl ⟨rfl, (((hbE.setCell (by exact Nat.le_refl _) _).setCell (by exact Nat.le_refl _) _).setCell (by exact Nat.le_refl _) _).setCell (by exact Nat.le_refl _) _⟩

set_option maxHeartbeats 1000000 in
theorem read10 (p : Value) (s : ByteArray) (w : World) (h : Calls Try.prog 17 #[p] (w.alloc zero35) fun e w' => e = .returned (val s) ∧ Below (w.alloc zero35).heap.size (w.alloc zero35) w') :
    Calls Try.prog 10 #[p] w fun e w' => e = .returned (val s) ∧ Below w.heap.size w w' := by
  go_enter Try.func10, Try.ntmps10
  go_wp2_with fail
  refine h.mono ?_
  rintro e w1 ⟨rfl, hb⟩
  unfold val
  have hB : w1.heap[w.heap.size]? = some (.cells #[.int .u8 0, .int .u64 0, .string ⟨#[]⟩, .pointer none] 35 (0, 0)) := by
    rw [hb.block w.heap.size (by simp), heap_alloc_new]; rfl
  have c0 : w1.cell? ⟨w.heap.size, 0, none⟩ = some (.int .u8 0) := by rw [cell_of_row _ _ _ _ _ _ hB]; rfl
  have c1 : w1.cell? ⟨w.heap.size, 1, none⟩ = some (.int .u64 0) := by rw [cell_of_row _ _ _ _ _ _ hB]; rfl
  have c2 : w1.cell? ⟨w.heap.size, 2, none⟩ = some (.string ⟨#[]⟩) := by rw [cell_of_row _ _ _ _ _ _ hB]; rfl
  have c3 : w1.cell? ⟨w.heap.size, 3, none⟩ = some (.pointer none) := by rw [cell_of_row _ _ _ _ _ _ hB]; rfl
  have f : ∀ i, w1.frozen? ⟨w.heap.size, i, none⟩ = false := fun i => frozen_of_row _ _ _ _ _ hB
  have hbE : Below w.heap.size w w1 := ((Below.refl _ _).alloc (Nat.le_refl _) _).trans (hb.mono (by simp))
  have hz : w.heap.size < w1.heap.size := by have := hb.size; simp at this; omega
  clear hb hB h
  go_wp2
  exact bodyPost_ret (v := val s) (by simp [results, Try.results10, go_sem, val, c0, c1, c2, c3]) rfl ⟨rfl, (((hbE.setCell (by exact Nat.le_refl _) _).setCell (by exact Nat.le_refl _) _).setCell (by exact Nat.le_refl _) _).setCell (by exact Nat.le_refl _) _⟩

/-- A text, read. -/
theorem textRead (w0 w : World) (T n : Nat) (vs : Nat → ByteArray) (h : Txt w0 w T n vs) (hn : n ≤ 65536) (ht : tot vs n ≤ 1048576) :
    Calls Try.prog 10 #[.pointer (some ⟨T, 0, none⟩)] w fun e w' => e = .returned (val (catB vs n)) ∧ Below w.heap.size w w' :=
  read10 _ _ w (read17 _ _ _ (str18 w0 _ T n vs (txt_alloc (txt_alloc h _) _) hn ht))
theorem textRead_nil (w : World) : Calls Try.prog 10 #[.pointer none] w fun e w' => e = .returned (val ⟨#[]⟩) ∧ Below w.heap.size w w' :=
  read10 _ _ w (read17 _ _ _ ((str18_nil _).mono fun _ _ ⟨he, hw⟩ => ⟨he, hw ▸ Below.refl _ _⟩))

theorem nil11 (w : World) : Calls Try.prog 11 #[] w fun e w' => e = .returned (.pointer none) ∧ w = w' := by
  go_enter Try.func11, Try.ntmps11
  go_wp2
  go_ret
  exact ⟨rfl, rfl⟩

set_option maxHeartbeats 1000000 in
theorem parts9 (s : ByteArray) (w : World) :
    Calls Try.prog 9 #[.agg #[.int .u8 5, .int .u64 0, .string s, .pointer none]] w fun e w' => e = .returned (.tuple #[.int .u8 5, .int .u64 0, .string s, .bool false]) ∧ Below w.heap.size w w' := by
  go_enter Try.func9, Try.ntmps9
  go_wp2
  go_quiet (fail)
  go_wp2
  exact bodyPost_ret (v := .tuple #[.int .u8 5, .int .u64 0, .string s, .bool false]) (by simp [results, Try.results9, go_sem]) rfl ⟨rfl, below_drewN ((Below.refl _ _).alloc (Nat.le_refl _) _) _⟩

end Go.Proofs.Qxb6616564a
