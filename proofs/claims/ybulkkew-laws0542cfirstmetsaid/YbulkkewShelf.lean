/- binary.LittleEndian.Uint64 and strings.ContainsFunc at this dump, out of the library's own contracts: written by the tools lay-shelf and lay-plain of the kit. -/
import Derived.Shelf.Bin.LEUint64
import Derived.Shelf.GgClosure.StringsIndexFuncTop
import Derived.Test.YbulkkewProg
namespace Go.Proofs
open Go.Shelf
def Yba.laysBin33_ren : Go.Shelf.Ren := ⟨fun | 33 => 10 | n => n, fun | 25 => 59 | 22 => 23 | 33 => 50 | 0 => 0 | 5 => 5 | 45 => 62 | n => n, fun | n => n⟩
theorem Yba.laysBin33 : Go.Proofs.LaysBin.n33 Yba.prog Yba.laysBin33_ren := {
  mixed := by kernel_rfl
  f33 := Yba.func10.trans (congrArg some (by kernel_rfl))
  t0 := Yba.underlying0
  a0 := Yba.isAgg0
  z0 := Yba.sizeOf0
  v0 := Yba.zeroValue0
  i0 := by kernel_rfl
  t5 := Yba.underlying5
  a5 := Yba.isAgg5
  z5 := Yba.sizeOf5
  v5 := Yba.zeroValue5
  i5 := by kernel_rfl
  t22 := Yba.underlying23
  a22 := Yba.isAgg23
  z22 := Yba.sizeOf23
  v22 := Yba.zeroValue23
  i22 := by kernel_rfl
  t25 := Yba.underlying59
  a25 := Yba.isAgg59
  z25 := Yba.sizeOf59
  v25 := Yba.zeroValue59
  i25 := by kernel_rfl
  t33 := Yba.underlying50
  a33 := Yba.isAgg50
  z33 := Yba.sizeOf50
  v33 := Yba.zeroValue50
  i33 := by kernel_rfl
  t45 := Yba.underlying62
  a45 := Yba.isAgg62
  z45 := Yba.sizeOf62
  v45 := Yba.zeroValue62
  i45 := by kernel_rfl }
open Go.RowKit in
theorem Yba.binary_LE_Uint64 (g o n c : Nat) (b0 b1 b2 b3 b4 b5 b6 b7 : UInt8) (w : World) (hn : 8 ≤ n) (c0 : w.cell? ⟨g, o, none⟩ = some (.int .u8 b0.toNat)) (c1 : w.cell? ⟨g, o + 1, none⟩ = some (.int .u8 b1.toNat)) (c2 : w.cell? ⟨g, o + 2, none⟩ = some (.int .u8 b2.toNat)) (c3 : w.cell? ⟨g, o + 3, none⟩ = some (.int .u8 b3.toNat)) (c4 : w.cell? ⟨g, o + 4, none⟩ = some (.int .u8 b4.toNat)) (c5 : w.cell? ⟨g, o + 5, none⟩ = some (.int .u8 b5.toNat)) (c6 : w.cell? ⟨g, o + 6, none⟩ = some (.int .u8 b6.toNat)) (c7 : w.cell? ⟨g, o + 7, none⟩ = some (.int .u8 b7.toNat)) :
    Calls Yba.prog 10 #[.agg #[], .slice (some ⟨g, o, none⟩) n c] w fun e w' => e = .returned (.int .u64 (Lib.leNat [b0, b1, b2, b3, b4, b5, b6, b7])) ∧ Below w.heap.size w w' := Any.binary_LE_Uint64 Yba.laysBin33 g o n c b0 b1 b2 b3 b4 b5 b6 b7 w hn c0 c1 c2 c3 c4 c5 c6 c7
def Yba.laysGw17_ren : Go.Shelf.Ren := ⟨fun | 17 => 8 | 15 => 11 | 20 => 12 | n => n, fun | 9 => 9 | 23 => 56 | 4 => 4 | 3 => 3 | 0 => 0 | 21 => 21 | n => n, fun | n => n⟩
theorem Yba.laysGw17 : Go.Proofs.LaysGw.n17 Yba.prog Yba.laysGw17_ren := {
  mixed := by kernel_rfl
  f15 := Yba.func11.trans (congrArg some (by kernel_rfl))
  f17 := Yba.func8.trans (congrArg some (by kernel_rfl))
  f20 := Yba.func12.trans (congrArg some (by kernel_rfl))
  t0 := Yba.underlying0
  a0 := Yba.isAgg0
  z0 := Yba.sizeOf0
  v0 := Yba.zeroValue0
  i0 := by kernel_rfl
  t3 := Yba.underlying3
  a3 := Yba.isAgg3
  z3 := Yba.sizeOf3
  v3 := Yba.zeroValue3
  i3 := by kernel_rfl
  t4 := Yba.underlying4
  a4 := Yba.isAgg4
  z4 := Yba.sizeOf4
  v4 := Yba.zeroValue4
  i4 := by kernel_rfl
  t9 := Yba.underlying9
  a9 := Yba.isAgg9
  z9 := Yba.sizeOf9
  v9 := Yba.zeroValue9
  i9 := by kernel_rfl
  t21 := Yba.underlying21
  a21 := Yba.isAgg21
  z21 := Yba.sizeOf21
  v21 := Yba.zeroValue21
  i21 := by kernel_rfl
  t23 := Yba.underlying56
  a23 := Yba.isAgg56
  z23 := Yba.sizeOf56
  v23 := Yba.zeroValue56
  i23 := by kernel_rfl }
open Go.RowKit Go.Lib in
theorem Yba.strings_ContainsFunc (g : Nat) (lb : Array Value) (eg : ∀ args w, (callFunc g args).run Yba.prog w = .ok (.enter g args) w) (p : Nat → Bool) (s : ByteArray) (w : World) (hp : PredAt Yba.prog g lb encR p w) :
    Calls Yba.prog 8 #[.string s, .func (.func g) #[] lb] w fun e w' => e = .returned (.bool (decide (0 ≤ Lib.idxFunc p true s))) ∧ Below w.heap.size w w' := Any.strings_ContainsFunc Yba.laysGw17 g lb eg p s w hp
end Go.Proofs
