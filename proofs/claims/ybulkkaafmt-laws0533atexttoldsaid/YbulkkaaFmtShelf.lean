/- strings.Join at this dump, out of the library's own contract: written by the kit's tools lay-shelf and lay-plain. -/
import Derived.Shelf.Strings.OnBuilder
import Derived.Test.YbulkkaaFmtProg
namespace Go.Proofs
open Go.Shelf
def Ybaf.lays156_ren : Go.Shelf.Ren := ⟨fun | 156 => 13 | 165 => 18 | 166 => 19 | 169 => 20 | 240 => 22 | 241 => 23 | 276 => 24 | 277 => 25 | n => n, fun | 31 => 42 | 9 => 9 | 3 => 3 | 4 => 4 | 0 => 0 | 20 => 20 | 72 => 51 | 76 => 53 | 70 => 49 | 37 => 28 | 75 => 26 | 127 => 60 | 164 => 61 | 5 => 5 | 80 => 55 | n => n, fun | n => n⟩
theorem Ybaf.lays156 : Go.Proofs.Lays.n156 Ybaf.prog Ybaf.lays156_ren := {
  mixed := by kernel_rfl
  f156 := Ybaf.func13.trans (congrArg some (by kernel_rfl))
  f165 := Ybaf.func18.trans (congrArg some (by kernel_rfl))
  f166 := Ybaf.func19.trans (congrArg some (by kernel_rfl))
  f169 := Ybaf.func20.trans (congrArg some (by kernel_rfl))
  f240 := Ybaf.func22.trans (congrArg some (by kernel_rfl))
  f241 := Ybaf.func23.trans (congrArg some (by kernel_rfl))
  f276 := Ybaf.func24.trans (congrArg some (by kernel_rfl))
  f277 := Ybaf.func25.trans (congrArg some (by kernel_rfl))
  t0 := Ybaf.underlying0
  a0 := Ybaf.isAgg0
  z0 := Ybaf.sizeOf0
  v0 := Ybaf.zeroValue0
  t3 := Ybaf.underlying3
  a3 := Ybaf.isAgg3
  z3 := Ybaf.sizeOf3
  v3 := Ybaf.zeroValue3
  t4 := Ybaf.underlying4
  a4 := Ybaf.isAgg4
  z4 := Ybaf.sizeOf4
  v4 := Ybaf.zeroValue4
  t9 := Ybaf.underlying9
  a9 := Ybaf.isAgg9
  z9 := Ybaf.sizeOf9
  v9 := Ybaf.zeroValue9
  t20 := Ybaf.underlying20
  a20 := Ybaf.isAgg20
  z20 := Ybaf.sizeOf20
  v20 := Ybaf.zeroValue20
  t31 := Ybaf.underlying42
  a31 := Ybaf.isAgg42
  z31 := Ybaf.sizeOf42
  v31 := Ybaf.zeroValue42
  t37 := Ybaf.underlying28
  a37 := Ybaf.isAgg28
  z37 := Ybaf.sizeOf28
  v37 := Ybaf.zeroValue28
  t70 := Ybaf.underlying49
  a70 := Ybaf.isAgg49
  z70 := Ybaf.sizeOf49
  v70 := Ybaf.zeroValue49
  t72 := Ybaf.underlying51
  a72 := Ybaf.isAgg51
  z72 := Ybaf.sizeOf51
  v72 := Ybaf.zeroValue51
  t75 := Ybaf.underlying26
  a75 := Ybaf.isAgg26
  z75 := Ybaf.sizeOf26
  v75 := Ybaf.zeroValue26
  t76 := Ybaf.underlying53
  a76 := Ybaf.isAgg53
  z76 := Ybaf.sizeOf53
  v76 := Ybaf.zeroValue53
  t127 := Ybaf.underlying60
  a127 := Ybaf.isAgg60
  z127 := Ybaf.sizeOf60
  v127 := Ybaf.zeroValue60
  t164 := Ybaf.underlying61
  a164 := Ybaf.isAgg61
  z164 := Ybaf.sizeOf61
  v164 := Ybaf.zeroValue61 }
theorem Ybaf.Builder_Extra_156 : Builder.Extra Ybaf.prog Ybaf.lays156_ren := {
  sizeBuilder := by kernel_rfl
  liesBuilder := by kernel_rfl
  t5 := Ybaf.underlying5
  a5 := Ybaf.isAgg5
  z5 := Ybaf.sizeOf5
  v5 := Ybaf.zeroValue5
  infoByte := by kernel_rfl
  cellsByte := by kernel_rfl
  sizeByte := by kernel_rfl
  neB5 := by decide }
open Go.RowKit in
/-- strings.Join. -/
theorem Ybaf.strings_Join (bk o c : Nat) (xs : List ByteArray) (sep : ByteArray) (w : World) (hcells : ∀ (j : Nat) x, xs[j]? = some x → w.cell? ⟨bk, o + j, none⟩ = some (.string x)) (hbk : bk < w.heap.size) (hN : xs.length ≤ 140737488355328) (hcap : xs.length ≤ c) (hlen : (Lib.join (xs.map (·.data.toList)) sep.data.toList).length ≤ 140737488355328) :
    Calls Ybaf.prog 13 #[.slice (some ⟨bk, o, none⟩) xs.length c, .string sep] w fun e w' => e = .returned (.string ⟨(Lib.join (xs.map (·.data.toList)) sep.data.toList).toArray⟩) ∧ Below w.heap.size w w' := Any.strings_Join Ybaf.lays156 Ybaf.Builder_Extra_156 bk o c xs sep w hcells hbk hN hcap hlen
end Go.Proofs
