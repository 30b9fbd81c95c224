/-
  YoecqwShelf: the contracts of strings.Join, proved once in the library, laid at this program (written by the kit's own tools lay-shelf and lay-plain, cut to the one function that is used).
-/
import Derived.Shelf.Strings.OnBuilder
import Derived.Test.YoecqwProg
namespace Go.Proofs
open Go.Shelf
def Ecqg.lays156_ren : Go.Shelf.Ren := ⟨fun | 156 => 18 | 165 => 21 | 166 => 22 | 169 => 23 | 240 => 24 | 241 => 25 | 276 => 26 | 277 => 27 | n => n, fun | 31 => 22 | 9 => 9 | 3 => 3 | 4 => 4 | 0 => 0 | 20 => 20 | 72 => 49 | 76 => 53 | 70 => 46 | 37 => 47 | 75 => 52 | 127 => 55 | 164 => 56 | 5 => 5 | 80 => 28 | n => n, fun | n => n⟩
theorem Ecqg.lays156 : Go.Proofs.Lays.n156 Ecqg.prog Ecqg.lays156_ren := {
  mixed := by kernel_rfl
  f156 := Ecqg.func18.trans (congrArg some (by kernel_rfl))
  f165 := Ecqg.func21.trans (congrArg some (by kernel_rfl))
  f166 := Ecqg.func22.trans (congrArg some (by kernel_rfl))
  f169 := Ecqg.func23.trans (congrArg some (by kernel_rfl))
  f240 := Ecqg.func24.trans (congrArg some (by kernel_rfl))
  f241 := Ecqg.func25.trans (congrArg some (by kernel_rfl))
  f276 := Ecqg.func26.trans (congrArg some (by kernel_rfl))
  f277 := Ecqg.func27.trans (congrArg some (by kernel_rfl))
  t0 := Ecqg.underlying0
  a0 := Ecqg.isAgg0
  z0 := Ecqg.sizeOf0
  v0 := Ecqg.zeroValue0
  t3 := Ecqg.underlying3
  a3 := Ecqg.isAgg3
  z3 := Ecqg.sizeOf3
  v3 := Ecqg.zeroValue3
  t4 := Ecqg.underlying4
  a4 := Ecqg.isAgg4
  z4 := Ecqg.sizeOf4
  v4 := Ecqg.zeroValue4
  t9 := Ecqg.underlying9
  a9 := Ecqg.isAgg9
  z9 := Ecqg.sizeOf9
  v9 := Ecqg.zeroValue9
  t20 := Ecqg.underlying20
  a20 := Ecqg.isAgg20
  z20 := Ecqg.sizeOf20
  v20 := Ecqg.zeroValue20
  t31 := Ecqg.underlying22
  a31 := Ecqg.isAgg22
  z31 := Ecqg.sizeOf22
  v31 := Ecqg.zeroValue22
  t37 := Ecqg.underlying47
  a37 := Ecqg.isAgg47
  z37 := Ecqg.sizeOf47
  v37 := Ecqg.zeroValue47
  t70 := Ecqg.underlying46
  a70 := Ecqg.isAgg46
  z70 := Ecqg.sizeOf46
  v70 := Ecqg.zeroValue46
  t72 := Ecqg.underlying49
  a72 := Ecqg.isAgg49
  z72 := Ecqg.sizeOf49
  v72 := Ecqg.zeroValue49
  t75 := Ecqg.underlying52
  a75 := Ecqg.isAgg52
  z75 := Ecqg.sizeOf52
  v75 := Ecqg.zeroValue52
  t76 := Ecqg.underlying53
  a76 := Ecqg.isAgg53
  z76 := Ecqg.sizeOf53
  v76 := Ecqg.zeroValue53
  t127 := Ecqg.underlying55
  a127 := Ecqg.isAgg55
  z127 := Ecqg.sizeOf55
  v127 := Ecqg.zeroValue55
  t164 := Ecqg.underlying56
  a164 := Ecqg.isAgg56
  z164 := Ecqg.sizeOf56
  v164 := Ecqg.zeroValue56 }
theorem Ecqg.Builder_Extra_156 : Builder.Extra Ecqg.prog Ecqg.lays156_ren := {
  sizeBuilder := by kernel_rfl
  liesBuilder := by kernel_rfl
  t5 := Ecqg.underlying5
  a5 := Ecqg.isAgg5
  z5 := Ecqg.sizeOf5
  v5 := Ecqg.zeroValue5
  infoByte := by kernel_rfl
  cellsByte := by kernel_rfl
  sizeByte := by kernel_rfl
  neB5 := by decide }
open Go.RowKit in
theorem Ecqg.strings_Join_none (a : Option Addr) (c : Nat) (sep : ByteArray) (w : World) :
    Calls Ecqg.prog 18 #[.slice a 0 c, .string sep] w fun e w' => e = .returned (.string ⟨#[]⟩) ∧ w' = w := Any.strings_Join_none Ecqg.lays156 Ecqg.Builder_Extra_156 a c sep w
open Go.RowKit in
theorem Ecqg.strings_Join (bk o c : Nat) (xs : List ByteArray) (sep : ByteArray) (w : World) (hcells : ∀ (j : Nat) x, xs[j]? = some x → w.cell? ⟨bk, o + j, none⟩ = some (.string x)) (hbk : bk < w.heap.size) (hN : xs.length ≤ 140737488355328) (hcap : xs.length ≤ c) (hlen : (Lib.join (xs.map (·.data.toList)) sep.data.toList).length ≤ 140737488355328) :
    Calls Ecqg.prog 18 #[.slice (some ⟨bk, o, none⟩) xs.length c, .string sep] w fun e w' => e = .returned (.string ⟨(Lib.join (xs.map (·.data.toList)) sep.data.toList).toArray⟩) ∧ Below w.heap.size w w' := Any.strings_Join Ecqg.lays156 Ecqg.Builder_Extra_156 bk o c xs sep w hcells hbk hN hcap hlen
end Go.Proofs
