/-
  THE CONTRACT OF strings.Join, laid at this dump by the kit's lay-shelf.mjs and lay-plain.mjs (no walk: the kernel compares the bodies).
-/
import Derived.Shelf.Strings.OnBuilder
import Derived.Test.YoeajwProg
namespace Go.Proofs.Yoeajw
open Go.Shelf
def Eajg.lays156_ren : Go.Shelf.Ren := ⟨fun | 156 => 11 | 165 => 12 | 166 => 13 | 169 => 14 | 240 => 15 | 241 => 16 | 276 => 17 | 277 => 18 | n => n, fun | 31 => 23 | 9 => 9 | 3 => 3 | 4 => 4 | 0 => 0 | 20 => 20 | 72 => 55 | 76 => 59 | 70 => 53 | 37 => 28 | 75 => 58 | 127 => 61 | 164 => 62 | 5 => 5 | 80 => 48 | n => n, fun | n => n⟩
theorem Eajg.lays156 : Go.Proofs.Lays.n156 Eajg.prog Eajg.lays156_ren := {
  mixed := by kernel_rfl
  f156 := Eajg.func11.trans (congrArg some (by kernel_rfl))
  f165 := Eajg.func12.trans (congrArg some (by kernel_rfl))
  f166 := Eajg.func13.trans (congrArg some (by kernel_rfl))
  f169 := Eajg.func14.trans (congrArg some (by kernel_rfl))
  f240 := Eajg.func15.trans (congrArg some (by kernel_rfl))
  f241 := Eajg.func16.trans (congrArg some (by kernel_rfl))
  f276 := Eajg.func17.trans (congrArg some (by kernel_rfl))
  f277 := Eajg.func18.trans (congrArg some (by kernel_rfl))
  t0 := Eajg.underlying0
  a0 := Eajg.isAgg0
  z0 := Eajg.sizeOf0
  v0 := Eajg.zeroValue0
  t3 := Eajg.underlying3
  a3 := Eajg.isAgg3
  z3 := Eajg.sizeOf3
  v3 := Eajg.zeroValue3
  t4 := Eajg.underlying4
  a4 := Eajg.isAgg4
  z4 := Eajg.sizeOf4
  v4 := Eajg.zeroValue4
  t9 := Eajg.underlying9
  a9 := Eajg.isAgg9
  z9 := Eajg.sizeOf9
  v9 := Eajg.zeroValue9
  t20 := Eajg.underlying20
  a20 := Eajg.isAgg20
  z20 := Eajg.sizeOf20
  v20 := Eajg.zeroValue20
  t31 := Eajg.underlying23
  a31 := Eajg.isAgg23
  z31 := Eajg.sizeOf23
  v31 := Eajg.zeroValue23
  t37 := Eajg.underlying28
  a37 := Eajg.isAgg28
  z37 := Eajg.sizeOf28
  v37 := Eajg.zeroValue28
  t70 := Eajg.underlying53
  a70 := Eajg.isAgg53
  z70 := Eajg.sizeOf53
  v70 := Eajg.zeroValue53
  t72 := Eajg.underlying55
  a72 := Eajg.isAgg55
  z72 := Eajg.sizeOf55
  v72 := Eajg.zeroValue55
  t75 := Eajg.underlying58
  a75 := Eajg.isAgg58
  z75 := Eajg.sizeOf58
  v75 := Eajg.zeroValue58
  t76 := Eajg.underlying59
  a76 := Eajg.isAgg59
  z76 := Eajg.sizeOf59
  v76 := Eajg.zeroValue59
  t127 := Eajg.underlying61
  a127 := Eajg.isAgg61
  z127 := Eajg.sizeOf61
  v127 := Eajg.zeroValue61
  t164 := Eajg.underlying62
  a164 := Eajg.isAgg62
  z164 := Eajg.sizeOf62
  v164 := Eajg.zeroValue62 }
theorem Eajg.Builder_Extra_156 : Builder.Extra Eajg.prog Eajg.lays156_ren := {
  sizeBuilder := by kernel_rfl
  liesBuilder := by kernel_rfl
  t5 := Eajg.underlying5
  a5 := Eajg.isAgg5
  z5 := Eajg.sizeOf5
  v5 := Eajg.zeroValue5
  infoByte := by kernel_rfl
  cellsByte := by kernel_rfl
  sizeByte := by kernel_rfl
  neB5 := by decide }
open Go.RowKit in
/-- No element: the empty string; the world is as it was. (Whatever the slice's address and capacity: a nil slice too.) (LAID: no walk: one application.) -/
theorem Eajg.strings_Join_none (a : Option Addr) (c : Nat) (sep : ByteArray) (w : World) :
    Calls Eajg.prog 11 #[.slice a 0 c, .string sep] w fun e w' => e = .returned (.string ⟨#[]⟩) ∧ w' = w := Any.strings_Join_none Eajg.lays156 Eajg.Builder_Extra_156 a c sep w
open Go.RowKit in
/-- strings.Join: "Join concatenates the elements of its first argument to create a single string. The separator string sep is placed between elements in the resulting string.": HOWEVER MANY ELEMENTS. Below the heap's end the world is as it was. (LAID: no walk: one application.) -/
theorem Eajg.strings_Join (bk o c : Nat) (xs : List ByteArray) (sep : ByteArray) (w : World) (hcells : ∀ (j : Nat) x, xs[j]? = some x → w.cell? ⟨bk, o + j, none⟩ = some (.string x)) (hbk : bk < w.heap.size) (hN : xs.length ≤ 140737488355328) (hcap : xs.length ≤ c) (hlen : (Lib.join (xs.map (·.data.toList)) sep.data.toList).length ≤ 140737488355328) :
    Calls Eajg.prog 11 #[.slice (some ⟨bk, o, none⟩) xs.length c, .string sep] w fun e w' => e = .returned (.string ⟨(Lib.join (xs.map (·.data.toList)) sep.data.toList).toArray⟩) ∧ Below w.heap.size w w' := Any.strings_Join Eajg.lays156 Eajg.Builder_Extra_156 bk o c xs sep w hcells hbk hN hcap hlen
end Go.Proofs.Yoeajw
