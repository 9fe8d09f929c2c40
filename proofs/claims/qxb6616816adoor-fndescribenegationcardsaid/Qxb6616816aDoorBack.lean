/-
  zzReadsBack (7): it reads back what the description of an int says.
-/
import Derived.Test.Qxb6616816aDoorProg
import Derived.Test.Qxb6616816aDoorDig
import Derived.WalkKit
import Derived.WalkLawsBesides
import Derived.WalkSpells
import Derived.ProofKit
import Derived.Deep.QuietTactic
import Derived.BigQuiet
namespace Go.Proofs.Qxb6616816aDoor
open Go.RowKit Go.Lib

def preB : ByteArray := { data := #[112, 97, 116, 104, 32, 115, 101, 103, 109, 101, 110, 116, 32] }
theorem pre_size : preB.size = 13 := by decide +kernel

/-- What the loop knows: the digits up to place t are those of u. -/
def DG (D : ByteArray) (t u : Nat) : Prop := t < D.size ∧ D.data.toList.take (t + 1) = decDigits u

theorem DG.digit {D : ByteArray} {t u : Nat} (h : DG D t u) (ht : t < D.size) : ((D[t]'ht).toNat : Int) = 48 + ((u % 10 : Nat) : Int) := by
  have := (dig_step D.data.toList t u (by simpa using ht) h.2).1
  have e : (D.data.toList[t]'(by simpa using ht)) = D[t]'ht := rfl
  rw [e] at this
  rw [this]; rfl
theorem DG.next {D : ByteArray} {t u : Nat} (h : DG D t u) : (u < 10 ∧ t = 0) ∨ (10 ≤ u ∧ ∃ t', t = t' + 1 ∧ DG D t' (u / 10)) := by
  rcases (dig_step D.data.toList t u (by simpa using h.1) h.2).2 with h1 | ⟨h1, t', rfl, h2⟩
  · exact .inl h1
  · exact .inr ⟨h1, t', rfl, by have := h.1; omega, h2⟩

theorem lead1 (D : ByteArray) (u : Nat) (hu : 1 ≤ u) (hD0 : 0 < D.size) (hD : D.data.toList = decDigits u) : (((D[0]'hD0).toNat : Int) == 48) = false := by
  have e2 : D.data.toList[0]'(by simpa using hD0) = D[0]'hD0 := rfl
  obtain ⟨c, r, e, hc⟩ := dec_head u hu
  rw [e] at hD
  have : D[0]'hD0 = c := by
    rw [← e2]
    simp [hD]
  rw [this]
  simp
  omega
theorem lead (D : ByteArray) (u : Nat) (hD0 : 0 < D.size) (hD : D.data.toList = decDigits u) :
    (((D[0]'hD0).toNat : Int) = 48 ∧ D.size ≤ 1) ∨ (((D[0]'hD0).toNat : Int) == 48) = false := by
  have e2 : D.data.toList[0]'(by simpa using hD0) = D[0]'hD0 := rfl
  by_cases h0 : u = 0
  · subst h0
    left
    rw [decDigits_one (by decide)] at hD
    refine ⟨?_, ?_⟩
    · rw [← e2]; simp [hD]
    · have := congrArg List.length hD
      simp at this; omega
  · exact .inr (lead1 D u (by omega) hD0 hD)

set_option maxHeartbeats 2000000 in
set_option maxRecDepth 100000 in
theorem back_pos (d D : ByteArray) (u : Nat) (w : World) (hu : u ≤ 9223372036854775807) (hd : d.size ≤ 1000) (hD0 : 0 < D.size) (hDd : D.size + 13 ≤ d.size)
    (hp : (d.extract 0 13).toList = preB.toList) (hR : d.extract 13 d.size = D) (hD : D.data.toList = decDigits u) :
    Calls Tryd.prog 7 #[.string d, .int .i64 u] w fun e w' => e = .returned (.bool true) ∧ w = w' := by
  have hG : DG D (D.size - 1) u := ⟨by omega, by rw [← hD]; exact List.take_of_length_le (by simp; omega)⟩
  have HG : Hid (DG D (D.size - 1) u) := hG
  have hpp : ((d.extract 0 13).toList == [112, 97, 116, 104, 32, 115, 101, 103, 109, 101, 110, 116, 32]) = true := by
    have e : preB.toList = [112, 97, 116, 104, 32, 115, 101, 103, 109, 101, 110, 116, 32] := by decide +kernel
    rw [hp, e]; simp
  have hz := lead D u hD0 hD
  have hne : ¬ D = ByteArray.empty := by rintro rfl; simp at hD0
  have hb0 : ((D.size : Int) == 0) = false := beq_eq_false_iff_ne.2 (by omega)
  clear hp hG hD
  rcases hz with ⟨h48, hs1⟩ | hz
  · go_enter Tryd.func7, Tryd.ntmps7
    go_wp2
    go_loop [6, 7] (fun x k => (k = .int .i64 (-1) ∧ x = .int .i64 0) ∨ ∃ t v : Nat, v ≤ 9223372036854775807 ∧ k = .int .i64 t ∧ x = .int .i64 v ∧ DG D t v) (fun _ k => (intOf k + 1).toNat)
    case atStart => exact Or.inr ⟨D.size - 1, u, hu, by go_num, rfl, HG.out⟩
    case round =>
      rcases hrel with ⟨rfl, rfl⟩ | ⟨t, v, hv, rfl, rfl, hg⟩
      · go_wp2
        go_ret
        exact ⟨rfl, rfl⟩
      · have HN : Hid ((v < 10 ∧ t = 0) ∨ (10 ≤ v ∧ ∃ t', t = t' + 1 ∧ DG D t' (v / 10))) := hg.next
        have htl := hg.1
        have hdg := hg.digit htl
        obtain ⟨r, q, hr, hr10, hq, hvq⟩ : ∃ r q : Nat, v % 10 = r ∧ r < 10 ∧ v / 10 = q ∧ v = 10 * q + r := ⟨v % 10, v / 10, rfl, by omega, rfl, by omega⟩
        have hr' : (v : Int) % 10 = (r : Int) := by omega
        have hq' : (v : Int) / 10 = (q : Int) := by omega
        rw [hr] at hdg
        have HQ : Hid (v / 10 = q) := hq
        clear hg hr hq hvq
        go_wp2
        go_round
        case rel =>
          have e := HQ.out
          rcases HN.out with ⟨h10, rfl⟩ | ⟨h10, t', rfl, hg'⟩
          · obtain rfl : q = 0 := by omega
            exact Or.inl ⟨by go_num, rfl⟩
          · rw [e] at hg'
            exact Or.inr ⟨t', q, by omega, by go_num, rfl, hg'⟩
        case measure => simp [intOf] <;> omega
  · go_enter Tryd.func7, Tryd.ntmps7
    go_wp2
    go_loop [6, 7] (fun x k => (k = .int .i64 (-1) ∧ x = .int .i64 0) ∨ ∃ t v : Nat, v ≤ 9223372036854775807 ∧ k = .int .i64 t ∧ x = .int .i64 v ∧ DG D t v) (fun _ k => (intOf k + 1).toNat)
    case atStart => exact Or.inr ⟨D.size - 1, u, hu, by go_num, rfl, HG.out⟩
    case round =>
      rcases hrel with ⟨rfl, rfl⟩ | ⟨t, v, hv, rfl, rfl, hg⟩
      · go_wp2
        go_ret
        exact ⟨rfl, rfl⟩
      · have HN : Hid ((v < 10 ∧ t = 0) ∨ (10 ≤ v ∧ ∃ t', t = t' + 1 ∧ DG D t' (v / 10))) := hg.next
        have htl := hg.1
        have hdg := hg.digit htl
        obtain ⟨r, q, hr, hr10, hq, hvq⟩ : ∃ r q : Nat, v % 10 = r ∧ r < 10 ∧ v / 10 = q ∧ v = 10 * q + r := ⟨v % 10, v / 10, rfl, by omega, rfl, by omega⟩
        have hr' : (v : Int) % 10 = (r : Int) := by omega
        have hq' : (v : Int) / 10 = (q : Int) := by omega
        rw [hr] at hdg
        have HQ : Hid (v / 10 = q) := hq
        clear hg hr hq hvq
        go_wp2
        go_round
        case rel =>
          have e := HQ.out
          rcases HN.out with ⟨h10, rfl⟩ | ⟨h10, t', rfl, hg'⟩
          · obtain rfl : q = 0 := by omega
            exact Or.inl ⟨by go_num, rfl⟩
          · rw [e] at hg'
            exact Or.inr ⟨t', q, by omega, by go_num, rfl, hg'⟩
        case measure => simp [intOf] <;> omega

set_option maxHeartbeats 2000000 in
set_option maxRecDepth 100000 in
theorem back_neg (d R D : ByteArray) (u : Nat) (w : World) (hu1 : 1 ≤ u) (hu : u ≤ 9223372036854775807) (hd : d.size ≤ 1000) (hD0 : 0 < D.size) (hR0 : 0 < R.size) (hDR : D.size + 1 = R.size) (hDd : R.size + 13 ≤ d.size)
    (hp : (d.extract 0 13).toList = preB.toList) (hR : d.extract 13 d.size = R) (h45 : (R[0]'hR0).toNat = 45) (hRD : R.extract 1 R.size = D) (hD : D.data.toList = decDigits u) :
    Calls Tryd.prog 7 #[.string d, .int .i64 (-(u : Int))] w fun e w' => e = .returned (.bool true) ∧ w = w' := by
  have hG : DG D (D.size - 1) u := ⟨by omega, by rw [← hD]; exact List.take_of_length_le (by simp; omega)⟩
  have HG : Hid (DG D (D.size - 1) u) := hG
  have hpp : ((d.extract 0 13).toList == [112, 97, 116, 104, 32, 115, 101, 103, 109, 101, 110, 116, 32]) = true := by
    have e : preB.toList = [112, 97, 116, 104, 32, 115, 101, 103, 109, 101, 110, 116, 32] := by decide +kernel
    rw [hp, e]; simp
  have hz : (((D[0]'hD0).toNat : Int) == 48) = false := lead1 D u hu1 hD0 hD
  have h45' : ((R[0]'hR0).toNat : Int) = 45 := by rw [h45]; rfl
  have hne : ¬ D = ByteArray.empty := by rintro rfl; simp at hD0
  have hneR : ¬ R = ByteArray.empty := by rintro rfl; simp at hR0
  have hb0 : ((D.size : Int) == 0) = false := beq_eq_false_iff_ne.2 (by omega)
  have hbR : ((R.size : Int) == 0) = false := beq_eq_false_iff_ne.2 (by omega)
  have hR1 : 1 ≤ R.size := hR0
  have hDs : D.size ≤ 1000 := by omega
  clear hp hG hD h45 hDR
  go_enter Tryd.func7, Tryd.ntmps7
  go_wp2
  go_loop [6, 7] (fun x k => (k = .int .i64 (-1) ∧ x = .int .i64 0) ∨ ∃ t v : Nat, v ≤ 9223372036854775807 ∧ k = .int .i64 t ∧ x = .int .i64 (-(v : Int)) ∧ DG D t v) (fun _ k => (intOf k + 1).toNat)
  case atStart => exact Or.inr ⟨D.size - 1, u, hu, by go_num, rfl, HG.out⟩
  case round =>
    rcases hrel with ⟨rfl, rfl⟩ | ⟨t, v, hv, rfl, rfl, hg⟩
    · go_wp2
      go_ret
      exact ⟨rfl, rfl⟩
    · have HN : Hid ((v < 10 ∧ t = 0) ∨ (10 ≤ v ∧ ∃ t', t = t' + 1 ∧ DG D t' (v / 10))) := hg.next
      have htl := hg.1
      have hdg := hg.digit htl
      have hr' := neg_tmod v
      have hq' := neg_tdiv v
      obtain ⟨r, q, hr, hr10, hq, hvq⟩ : ∃ r q : Nat, v % 10 = r ∧ r < 10 ∧ v / 10 = q ∧ v = 10 * q + r := ⟨v % 10, v / 10, rfl, by omega, rfl, by omega⟩
      rw [hr] at hdg hr'
      rw [hq] at hq'
      have HQ : Hid (v / 10 = q) := hq
      have hqv : q ≤ 9223372036854775807 := by omega
      clear hg hr hq hvq
      by_cases hr0 : r = 0
      · subst hr0
        go_wp2
        go_round
        case rel =>
          have e := HQ.out
          rcases HN.out with ⟨h10, rfl⟩ | ⟨h10, t', rfl, hg'⟩
          · obtain rfl : q = 0 := by omega
            exact Or.inl ⟨by go_num, rfl⟩
          · rw [e] at hg'
            exact Or.inr ⟨t', q, by omega, by go_num, rfl, hg'⟩
        case measure => simp [intOf] <;> omega
      · have hrp : -(r : Int) < 0 := by omega
        go_wp2
        refine ⟨⟨_, _, _, ?_, rfl, rfl, rfl⟩, ?_⟩
        · have e := HQ.out
          rcases HN.out with ⟨h10, rfl⟩ | ⟨h10, t', rfl, hg'⟩
          · obtain rfl : q = 0 := by omega
            exact Or.inl ⟨by go_num, rfl⟩
          · rw [e] at hg'
            exact Or.inr ⟨t', q, by omega, by go_num, rfl, hg'⟩
        · simp [intOf] <;> omega

end Go.Proofs.Qxb6616816aDoor
