import Derived.Test.YbulkkaaFmtW2
import Derived.Test.YbulkkaaFmtShelf
import Derived.Stop.CallBack
import Derived.Stop.IfaceNil
import Derived.Laws.Cells
namespace Go.Proofs.YbulkkaaFmt
open Go.RowKit Go.Extern.Stop Go.Stop Go.Extern

/-! fmt's closed facts at this dump -/
theorem call15 (args : Array Value) (w : World) : (callFunc 15 args).run Ybaf.prog w = (FmtCalls.errorf #[9, 46] #[26] args).run Ybaf.prog w :=
  run_callFunc_next Ybaf.func15 (by kernel_rfl) (by kernel_rfl) (by kernel_rfl) args w
theorem guardF (name : String) (w : World) : (FmtStop.guard name).run Ybaf.prog w = .ok () w := by kernel_rfl
theorem nextTurns : Extern.next FmtCalls.turnsRow = some (FmtCalls.begun #[] #[]) := by kernel_rfl

def fmtB : ByteArray := ⟨#[117, 110, 107, 110, 111, 119, 110, 32, 102, 117, 110, 99, 116, 105, 111, 110, 32, 37, 113, 58, 32, 109, 117, 115, 116, 32, 98, 101, 32, 37, 115, 32, 111, 114, 32, 37, 115]⟩
theorem fmt0 : FmtStop.printed? fmtB 3 = some [(0, 113, false), (1, 115, false), (2, 115, false)] := by kernel_rfl
theorem fmt0r (w : World) : (FmtDoors.printed fmtB 3).run Ybaf.prog w = .ok [(0, 113, false), (1, 115, false), (2, 115, false)] w := by kernel_rfl
theorem act9 (name : String) (x : Value) (w : World) : (FmtCalls.act name true 115 false (.iface 9 x)).run Ybaf.prog w = .ok (.closed true) w := by kernel_rfl
theorem act28 (name : String) (x : Value) (w : World) : (FmtCalls.act name true 113 false (.iface 28 x)).run Ybaf.prog w = .ok (.closed true) w := by kernel_rfl
def shape9 : List UInt8 := [12, 6, 0, 0, 0, 0, 0, 0, 0, 115, 116, 114, 105, 110, 103]
theorem op9 (name : String) (x : ByteArray) (w : World) : (FmtStop.operand name true 115 false (.iface 9 (.string x))).run Ybaf.prog w = .ok (shape9, FmtStop.pack x.data.toList) w := by kernel_rfl
theorem ptrE (w : World) : (FmtStop.ptrTo "errors.errorString").run Ybaf.prog w = .ok 56 w := by kernel_rfl
theorem elemE (w : World) : (elemOf 56).run Ybaf.prog w = .ok 58 w := by kernel_rfl

theorem value5 (x : Int) (w : World) : (FmtStop.value "fmt.errorf" FmtStop.depth 5 [.int .u8 x]).run Ybaf.prog w = .ok (digits 8 (x % 2 ^ 64).toNat) w := by kernel_rfl

theorem values5 (w : World) : ∀ xs : List Int, (List.mapM ((fun c => FmtStop.value "fmt.errorf" FmtStop.depth 5 [c]) ∘ Value.int IntKind.u8) xs).run Ybaf.prog w = .ok (xs.map fun x => digits 8 (x % 18446744073709551616).toNat) w
  | [] => by simp [List.mapM_nil]
  | x :: xs => by
    have ih := values5 w xs
    have h := value5 x w
    simp [List.mapM_cons, h, ih, Result.andThen]

/-- What fmt reads of the text: something (which, is not wanted here). -/
theorem op_bytes (ad : Option Addr) (cap : Nat) (xs : List Int) (w : World) (hc : ∀ a, ad = some a → ∀ j v, (xs.map (Value.int .u8))[j]? = some v → w.cell? (a.add j) = some v) :
    ∃ s v, (FmtStop.operand "fmt.errorf" true 113 false (.iface 28 (.slice ad xs.length cap))).run Ybaf.prog w = .ok (s, v) w := by
  have h1 : (typeStr 28).run Ybaf.prog w = .ok Ybaf.t28.str w := by kernel_rfl
  have hb : (FmtStop.bare (FmtStop.asked true 113 false) 28).run Ybaf.prog w = .ok true w := by kernel_rfl
  have hs : (FmtStop.scalar 5).run Ybaf.prog w = .ok true w := by kernel_rfl
  have hy : (Extern.Stop.isByte 5).run Ybaf.prog w = .ok true w := by kernel_rfl
  have hw : Ybaf.prog.funcs.any (·.name == FmtStop.writeWord) = true := by kernel_rfl
  have hw' : ¬ (∀ (i : Nat) (x : i < Ybaf.prog.funcs.size), ¬ Ybaf.prog.funcs[i].name = FmtStop.writeWord) := by
    intro hno
    obtain ⟨i, hi, _, _, he⟩ := Array.any_iff_exists.1 hw
    exact absurd (by simpa using he) (hno i hi)
  have hsh : (FmtStop.shape "fmt.errorf" (FmtStop.asked true 113 false) FmtStop.depth 5).run Ybaf.prog w = .ok (6 :: FmtStop.pack Ybaf.t5.str.toUTF8.data.toList) w := by kernel_rfl
  cases ad with
  | none => simp [FmtStop.operand, h1, hb, hs, hy, hsh, hw']
  | some a =>
    have hl := run_loadCells_list (P := Ybaf.prog) w a (xs.map (Value.int .u8)) (hc a rfl)
    rw [List.length_map] at hl
    simp [FmtStop.operand, h1, hb, hs, hy, hsh, hl, values5, hw']

set_option maxHeartbeats 800000 in
theorem errorf_any (F : Interp) (ta : Option Addr) (tn tc : Nat) (j l : ByteArray) (blk : Nat) (w : World) (hF : F.answers w.tape) (s1 v1 : List UInt8)
    (c0 : w.cell? ⟨blk, 0, none⟩ = some (.iface 28 (.slice ta tn tc))) (c1 : w.cell? ⟨blk, 1, none⟩ = some (.iface 9 (.string j))) (c2 : w.cell? ⟨blk, 2, none⟩ = some (.iface 9 (.string l)))
    (hop : (FmtStop.operand "fmt.errorf" true 113 false (.iface 28 (.slice ta tn tc))).run Ybaf.prog w = .ok (s1, v1) w) :
    Calls Ybaf.prog 12 #[.string fmtB, .slice (some ⟨blk, 0, none⟩) 3 3] w fun e w' => ∃ t x, e = .returned (.iface t x) ∧ Below w.heap.size w w' := by
  have hF' := answers_open hF
  have k1 := call15; have k2 := guardF; have k3 := fmt0; have k4 := fmt0r; have k5 := act9; have k6 := act28; have k7 := op9; have k8 := ptrE; have k9 := elemE
  go_enter Ybaf.func12, Ybaf.ntmps12
  go_wp2
  apply rows_value nextTurns
  case hr =>
    go_simp
    exact ⟨rfl, rfl⟩
  case h =>
    go_wp2
    go_ret
    exact ⟨_, _, rfl, ((Below.refl _ w).alloc (Nat.le_refl _) _).drew⟩
end Go.Proofs.YbulkkaaFmt
