/-
  payload (27), ZZpayload (10): 'strings.Join(append([]string{origin}, topics...), " ")'.
-/
import Derived.Test.Qxb6618922aPay
import Derived.Lib.Join
import Derived.Deep.AppendLies
import Derived.Laws.AppendOwnNone
namespace Go.Proofs.Qxb6618922a.Pay
open Go.RowKit

theorem info9 : (Try.prog.info? 9).map (fun i => (i.zero, i.size, i.bytes)) = some (some (.string ByteArray.empty), 1, 16) := by kernel_rfl

def lst (n : Nat) (sv : Nat → ByteArray) : List ByteArray := (List.range n).map sv
theorem lst_length (n : Nat) (sv : Nat → ByteArray) : (lst n sv).length = n := by simp [lst]
theorem lst_get {n : Nat} {sv : Nat → ByteArray} {j : Nat} {x : ByteArray} (h : (lst n sv)[j]? = some x) : j < n ∧ x = sv j := by
  have hj : j < (lst n sv).length := by
    rcases Nat.lt_or_ge j (lst n sv).length with h' | h'
    · exact h'
    · rw [List.getElem?_eq_none h'] at h; cases h
  rw [lst_length] at hj
  simp [lst, hj] at h
  exact ⟨hj, h.symm⟩

/-- The payload's bytes. -/
def payL (o : ByteArray) (n : Nat) (sv : Nat → ByteArray) : List UInt8 := Lib.join ((o :: lst n sv).map (·.data.toList)) [32]
def payB (o : ByteArray) (n : Nat) (sv : Nat → ByteArray) : ByteArray := ⟨(payL o n sv).toArray⟩

def JoinC : Prop := ∀ (bk o c : Nat) (xs : List ByteArray) (sep : ByteArray) (w : World), (∀ (j : Nat) x, xs[j]? = some x → w.cell? ⟨bk, o + j, none⟩ = some (.string x)) → bk < w.heap.size → xs.length ≤ 140737488355328 → xs.length ≤ c →
  (Lib.join (xs.map (·.data.toList)) sep.data.toList).length ≤ 140737488355328 →
  Calls Try.prog 30 #[.slice (some ⟨bk, o, none⟩) xs.length c, .string sep] w fun e w' => e = .returned (.string ⟨(Lib.join (xs.map (·.data.toList)) sep.data.toList).toArray⟩) ∧ Below w.heap.size w w'

/-- What is asked of Join, out of the owned row. -/
theorem join_own (hJ : JoinC) (o : ByteArray) (n : Nat) (sv : Nat → ByteArray) (w : World) (base g cap : Nat)
    (hown : w.ownsRow base 9 1 (.slice (some ⟨g, 0, none⟩) (1 + n) cap) (1 + n) ([.string o] ++ (lst n sv).map Value.string)) (hg : g < w.heap.size) (hn : n ≤ 65536) (hlen : (payL o n sv).length ≤ 140737488355328) :
    Calls Try.prog 30 #[.slice (some ⟨g, 0, none⟩) (1 + n) cap, .string { data := #[32] }] w fun e w' => e = .returned (.string (payB o n sv)) ∧ Below w.heap.size w w' := by
  have hl : (o :: lst n sv).length = 1 + n := by simp [lst_length, Nat.add_comm]
  have hcap : 1 + n ≤ cap := by
    rcases hown.2 with ⟨h, _⟩ | ⟨g', cap', cur, h, _, _, hc, _⟩
    · simp at h
    · simp only [Value.slice.injEq] at h; obtain ⟨_, _, rfl⟩ := h; exact hc
  have h := hJ g 0 cap (o :: lst n sv) ⟨#[32]⟩ w (fun j x hx => by
    have hj : j < (o :: lst n sv).length := by
      rcases Nat.lt_or_ge j (o :: lst n sv).length with h' | h'
      · exact h'
      · rw [List.getElem?_eq_none h'] at hx; cases hx
    rw [Nat.zero_add, hown.cellAt j (by omega)]
    show (List.map Value.string (o :: lst n sv))[j]? = _
    rw [List.getElem?_map, hx]; rfl) hg (by omega) (by omega) hlen
  rw [hl] at h
  exact h

theorem payload_none (hJ : JoinC) (o : ByteArray) (sv : Nat → ByteArray) (w : World) (hlen : (payL o 0 sv).length ≤ 140737488355328) :
    Calls Try.prog 27 #[.string o, .slice none 0 0] w fun e w' => e = .returned (.string (payB o 0 sv)) ∧ Below w.heap.size w w' := by
  obtain ⟨i0, hi, hz0, hz1, hz2⟩ := info_parts info9
  go_enter Try.func27, Try.ntmps27
  have hown : (w.alloc (.cells #[.string o] 9)).ownsRow w.heap.size 9 1 (.slice (some ⟨w.heap.size, 0, none⟩) 1 1) 1 [.string o] := World.ownsRow_lit w #[.string o] 1 (Nat.le_refl _) (by decide) rfl
  go_wp2_with (first
    | (at_builtin; refine wpList_append_own_none rfl _ _ 22 rfl w.heap.size 9 i0 1 Try.underlying22 hi _ _ _ rfl hown rfl ?_)
    | (go_at_call 30; refine (join_own hJ o 0 sv _ w.heap.size w.heap.size 1 hown (by simp) (by omega) hlen).mono ?_; rintro e w' ⟨rfl, hb⟩))
  go_ret
  exact ⟨rfl, ((Below.refl _ _).alloc (Nat.le_refl _) _).trans (hb.mono (by simp))⟩

theorem payload_some (hJ : JoinC) (o : ByteArray) (ad : Addr) (n c : Nat) (sv : Nat → ByteArray) (w : World) (hn : n ≤ 65536) (hlen : (payL o n sv).length ≤ 140737488355328)
    (hc : ∀ j, j < n → w.cell? (ad.add j) = some (.string (sv j))) (hlt : 0 < n → ad.block < w.heap.size) :
    Calls Try.prog 27 #[.string o, .slice (some ad) n c] w fun e w' => e = .returned (.string (payB o n sv)) ∧ Below w.heap.size w w' := by
  obtain ⟨i0, hi, hz0, hz1, hz2⟩ := info_parts info9
  have hown : (w.alloc (.cells #[.string o] 9)).ownsRow w.heap.size 9 1 (.slice (some ⟨w.heap.size, 0, none⟩) 1 1) 1 [.string o] := World.ownsRow_lit w #[.string o] 1 (Nat.le_refl _) (by decide) rfl
  have hnews : ∀ j u, ((lst n sv).map Value.string)[j]? = some u → (w.alloc (.cells #[.string o] 9)).cell? (ad.add j) = some u := by
    intro j u hu
    rw [List.getElem?_map] at hu
    obtain ⟨x, hx, rfl⟩ := Option.map_eq_some_iff.1 hu
    obtain ⟨hj, rfl⟩ := lst_get hx
    have := hc j hj
    rw [World.cell?_alloc_old]
    · exact this
    · have hb := hlt (by omega)
      have e : (ad.add j).block = ad.block := by unfold Addr.add; split <;> rfl
      omega
  have h1 : ∀ u ∈ (lst n sv).map Value.string, u.oneCell' = true := by
    intro u hu; obtain ⟨x, _, rfl⟩ := List.mem_map.1 hu; rfl
  go_enter Try.func27, Try.ntmps27
  go_wp2_with (first
    | (at_builtin; refine wpList_append_own _ rfl _ _ 22 rfl w.heap.size 9 i0 _ 1 16 Try.underlying22 hi hz0 hz1 hz2 rfl (by decide) _ _ _ rfl hown ad n c ((lst n sv).map Value.string) rfl (by simp [lst_length]) hnews h1 (by unfold maxLen; omega) (by omega) (by simp) ?_)
    | fail)
  intro v' w1 hown' hgrow _
  obtain ⟨g, cap, rfl, hg1, hg2⟩ := hown'.form (by omega)
  go_wp2_with (go_at_call 30; refine (join_own hJ o n sv _ w.heap.size g cap hown' hg2 hn hlen).mono ?_; rintro e w' ⟨rfl, hb⟩)
  go_ret
  refine ⟨rfl, ?_⟩
  have b1 : Below w.heap.size w (w.alloc (.cells #[.string o] 9)) := (Below.refl _ _).alloc (Nat.le_refl _) _
  have b2 : Below w.heap.size w w1 := b1.grown hgrow (by simp) (by intro k hk; simp [Value.ownBlock] at hk; omega)
  exact b2.trans (hb.mono b2.size)

/-- payload, whatever the slice. -/
theorem pay27 (hJ : JoinC) (o : ByteArray) (a : Option Addr) (n c : Nat) (sv : Nat → ByteArray) (w : World) (hs : IsS w a n sv) (ha : a = none → n = 0 ∧ c = 0) (hn : n ≤ 65536) (hlen : (payL o n sv).length ≤ 140737488355328) :
    Calls Try.prog 27 #[.string o, .slice a n c] w fun e w' => e = .returned (.string (payB o n sv)) ∧ Below w.heap.size w w' := by
  match a, ha, hs with
  | none, ha, _ => obtain ⟨rfl, rfl⟩ := ha rfl; exact payload_none hJ o sv w hlen
  | some ad, _, .inl h0 => subst h0; exact payload_some hJ o ad 0 c sv w hn hlen (fun j hj => absurd hj (Nat.not_lt_zero _)) (fun h => absurd h (Nat.not_lt_zero _))
  | some ad, _, .inr ⟨b, off, e, hlt, hc⟩ =>
    obtain rfl := Option.some.inj e
    exact payload_some hJ o ⟨b, off, none⟩ n c sv w hn hlen (fun j hj => by rw [Go.WideShapes.add_plain]; exact hc j hj) (fun _ => hlt)

theorem pay10 (hJ : JoinC) (o : ByteArray) (a : Option Addr) (n c : Nat) (sv : Nat → ByteArray) (w : World) (hs : IsS w a n sv) (ha : a = none → n = 0 ∧ c = 0) (hn : n ≤ 65536) (hlen : (payL o n sv).length ≤ 140737488355328) :
    Calls Try.prog 10 #[.string o, .slice a n c] w fun e w' => e = .returned (.string (payB o n sv)) ∧ Below w.heap.size w w' := by
  go_enter Try.func10, Try.ntmps10
  go_wp2_with (go_at_call 27; refine (pay27 hJ o a n c sv _ hs ha hn hlen).mono ?_; rintro e w' ⟨rfl, hb⟩)
  go_ret
  exact ⟨rfl, hb⟩

end Go.Proofs.Qxb6618922a.Pay
