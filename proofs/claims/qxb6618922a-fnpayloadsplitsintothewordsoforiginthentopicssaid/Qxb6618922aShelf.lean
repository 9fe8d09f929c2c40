/-
  The shelf contract of strings.Join, laid at this dump in plain words (lay-shelf.mjs, lay-plain.mjs).
-/
import Derived.Shelf.Strings.OnBuilder
import Derived.Test.Qxb6618922aProg
namespace Go.Proofs
open Go.Shelf
def Try.lays156_ren : Go.Shelf.Ren := ⟨fun | 156 => 30 | 165 => 31 | 166 => 32 | 169 => 33 | 240 => 34 | 241 => 35 | 276 => 36 | 277 => 37 | n => n, fun | 31 => 22 | 9 => 9 | 3 => 3 | 4 => 4 | 0 => 0 | 20 => 20 | 72 => 81 | 76 => 85 | 70 => 78 | 37 => 79 | 75 => 84 | 127 => 88 | 164 => 89 | 5 => 5 | 80 => 87 | n => n, fun | n => n⟩
theorem Try.lays156 : Go.Proofs.Lays.n156 Try.prog Try.lays156_ren := {
  mixed := by kernel_rfl
  f156 := Try.func30.trans (congrArg some (by kernel_rfl))
  f165 := Try.func31.trans (congrArg some (by kernel_rfl))
  f166 := Try.func32.trans (congrArg some (by kernel_rfl))
  f169 := Try.func33.trans (congrArg some (by kernel_rfl))
  f240 := Try.func34.trans (congrArg some (by kernel_rfl))
  f241 := Try.func35.trans (congrArg some (by kernel_rfl))
  f276 := Try.func36.trans (congrArg some (by kernel_rfl))
  f277 := Try.func37.trans (congrArg some (by kernel_rfl))
  t0 := Try.underlying0
  a0 := Try.isAgg0
  z0 := Try.sizeOf0
  v0 := Try.zeroValue0
  t3 := Try.underlying3
  a3 := Try.isAgg3
  z3 := Try.sizeOf3
  v3 := Try.zeroValue3
  t4 := Try.underlying4
  a4 := Try.isAgg4
  z4 := Try.sizeOf4
  v4 := Try.zeroValue4
  t9 := Try.underlying9
  a9 := Try.isAgg9
  z9 := Try.sizeOf9
  v9 := Try.zeroValue9
  t20 := Try.underlying20
  a20 := Try.isAgg20
  z20 := Try.sizeOf20
  v20 := Try.zeroValue20
  t31 := Try.underlying22
  a31 := Try.isAgg22
  z31 := Try.sizeOf22
  v31 := Try.zeroValue22
  t37 := Try.underlying79
  a37 := Try.isAgg79
  z37 := Try.sizeOf79
  v37 := Try.zeroValue79
  t70 := Try.underlying78
  a70 := Try.isAgg78
  z70 := Try.sizeOf78
  v70 := Try.zeroValue78
  t72 := Try.underlying81
  a72 := Try.isAgg81
  z72 := Try.sizeOf81
  v72 := Try.zeroValue81
  t75 := Try.underlying84
  a75 := Try.isAgg84
  z75 := Try.sizeOf84
  v75 := Try.zeroValue84
  t76 := Try.underlying85
  a76 := Try.isAgg85
  z76 := Try.sizeOf85
  v76 := Try.zeroValue85
  t127 := Try.underlying88
  a127 := Try.isAgg88
  z127 := Try.sizeOf88
  v127 := Try.zeroValue88
  t164 := Try.underlying89
  a164 := Try.isAgg89
  z164 := Try.sizeOf89
  v164 := Try.zeroValue89 }
theorem Try.Builder_Extra_156 : Builder.Extra Try.prog Try.lays156_ren := {
  sizeBuilder := by kernel_rfl
  liesBuilder := by kernel_rfl
  t5 := Try.underlying5
  a5 := Try.isAgg5
  z5 := Try.sizeOf5
  v5 := Try.zeroValue5
  infoByte := by kernel_rfl
  cellsByte := by kernel_rfl
  sizeByte := by kernel_rfl
  neB5 := by decide }
open Go.RowKit in
/-- strings.Join: "Join concatenates the elements of its first argument to create a single string. The separator string sep is placed between elements in the resulting string.": HOWEVER MANY ELEMENTS. Below the heap's end the world is as it was. (LAID: no walk: one application.) -/
theorem Try.strings_Join (bk o c : Nat) (xs : List ByteArray) (sep : ByteArray) (w : World) (hcells : ∀ (j : Nat) x, xs[j]? = some x → w.cell? ⟨bk, o + j, none⟩ = some (.string x)) (hbk : bk < w.heap.size) (hN : xs.length ≤ 140737488355328) (hcap : xs.length ≤ c) (hlen : (Lib.join (xs.map (·.data.toList)) sep.data.toList).length ≤ 140737488355328) :
    Calls Try.prog 30 #[.slice (some ⟨bk, o, none⟩) xs.length c, .string sep] w fun e w' => e = .returned (.string ⟨(Lib.join (xs.map (·.data.toList)) sep.data.toList).toArray⟩) ∧ Below w.heap.size w w' := Any.strings_Join Try.lays156 Try.Builder_Extra_156 bk o c xs sep w hcells hbk hN hcap hlen
end Go.Proofs
