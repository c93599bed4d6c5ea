import Derived.Test.YbulkkaaFmtRows
import Derived.WalkKit
import Derived.WalkSpells
import Derived.WalkLawsBesides
import Derived.Laws.BytesArg
namespace Go.Proofs.YbulkkaaFmt
open Go.RowKit

def nmL : Nat → List UInt8
  | 0 => [115, 117, 109]
  | 1 => [97, 118, 103]
  | 2 => [109, 105, 110]
  | 3 => [109, 97, 120]
  | 4 => [99, 111, 117, 110, 116]
  | 5 => [108, 97, 115, 116]
  | 6 => [100, 101, 108, 116, 97]
  | 7 => [100, 101, 114, 105, 118, 101]
  | 8 => [115, 116, 100, 101, 118]
  | 9 => [112, 101, 114, 99, 101, 110, 116, 105, 108, 101, 115]
  | _ => []

def nmB (i : Nat) : ByteArray := ⟨(nmL i).toArray⟩

def namesC : Array Value := #[.string (nmB 0), .string (nmB 1), .string (nmB 2), .string (nmB 3), .string (nmB 4), .string (nmB 5), .string (nmB 6), .string (nmB 7), .string (nmB 8), .string (nmB 9)]

set_option maxHeartbeats 400000 in
theorem names_any (w : World) : Calls Ybaf.prog 6 #[] w fun e w' => e = .returned (.agg namesC) ∧ w' = w.alloc (.cells namesC 22) := by
  go_enter Ybaf.func6, Ybaf.ntmps6
  go_wp2
  exact bodyPost_ret (v := .agg namesC) (by simp [results, Ybaf.results6, go_sem, namesC, nmB, nmL]) rfl ⟨rfl, rfl⟩

theorem namesC_at (i : Nat) (hi : i < 10) : namesC[i]? = some (.string (nmB i)) := by
  match i, hi with
  | 0, _ | 1, _ | 2, _ | 3, _ | 4, _ | 5, _ | 6, _ | 7, _ | 8, _ | 9, _ => rfl

theorem bl_true {a b : ByteArray} (h : a = b) : (a.toList == b.toList) = true := by rw [h]; simp
theorem bl_false {a b : ByteArray} (h : ¬ a = b) : (a.toList == b.toList) = false := by
  rw [Go.ByteArray.toList_eq, Go.ByteArray.toList_eq]
  cases a; cases b
  simp at h ⊢
  exact h

theorem hide {p : Prop} (h : p) : Hid p := h

set_option maxHeartbeats 400000 in
theorem aindex_any (t : ByteArray) (w : World) : Calls Ybaf.prog 8 #[.string t] w fun e w' => ∃ r : Int, e = .returned (.int .i64 r) ∧ Below w.heap.size w w' ∧
    ((∃ i : Nat, i < 10 ∧ r = i ∧ nmB i = t) ∨ (r = -1 ∧ ∀ i, i < 10 → nmB i ≠ t)) := by
  go_enter Ybaf.func8, Ybaf.ntmps8
  go_wp2_with fail
  refine (names_any w).mono ?_
  rintro e w1 ⟨rfl, rfl⟩
  unfold namesC
  go_wp2
  obtain ⟨W, hW⟩ : ∃ W, W = (w.alloc (.cells namesC 22)).alloc (.cells namesC 22) := ⟨_, rfl⟩
  have hb : Below w.heap.size w W := by rw [hW]; exact ((Below.refl _ _).alloc (Nat.le_refl _) _).alloc (by simp) _
  have hc : ∀ i, i < 10 → W.cell? ⟨w.heap.size + 1, i, none⟩ = some (.string (nmB i)) := fun i hi => by
    rw [hW, World.cell?_alloc_at _ _ _ _ (by simp)]; exact namesC_at i hi
  unfold namesC at hW
  rw [← hW]
  clear hW
  have HC := hide hc
  clear hc
  go_loop [4] (fun i => ∃ k : Nat, k ≤ 10 ∧ i = .int .i64 k ∧ Hid (∀ j, j < k → nmB j ≠ t)) (fun i => 10 - (intOf i).toNat)
  case atStart => exact ⟨0, Nat.zero_le _, rfl, fun j hj => absurd hj (Nat.not_lt_zero _)⟩
  case round =>
    obtain ⟨k, hk, rfl, hno⟩ := hrel
    by_cases hlt : k < 10
    · have c0 := HC.out k hlt
      by_cases he : nmB k = t
      · have hd := bl_true he
        have HE := hide he
        clear he
        go_wp2
        go_ret
        exact ⟨k, rfl, hb, .inl ⟨k, hlt, rfl, HE.out⟩⟩
      · have hd := bl_false he
        have HE := hide he
        clear he
        go_wp2
        go_round
        case rel =>
          refine ⟨k + 1, by omega, by go_num, fun j hj => ?_⟩
          by_cases e : j = k
          · rw [e]; exact HE.out
          · exact hno.out j (by omega)
        case measure => simp [intOf]; omega
    · go_wp2
      go_ret
      exact ⟨-1, rfl, hb, .inr ⟨rfl, fun i hi => hno.out i (by omega)⟩⟩

/-- In every later world string(text) is t. -/
def TextIs (w : World) (ta : Option Addr) (tn tc : Nat) (t : ByteArray) : Prop := ∀ W, Below w.heap.size w W → (convert 28 9 (.slice ta tn tc)).run Ybaf.prog W = .ok (.string t) W

theorem TextIs.later {w W : World} {ta : Option Addr} {tn tc : Nat} {t : ByteArray} (h : TextIs w ta tn tc t) (hb : Below w.heap.size w W) : TextIs W ta tn tc t :=
  fun W' hW' => h W' (hb.trans (hW'.mono hb.size))

/-- The table: the variable's cells. -/
def TabIs (w : World) : Prop := 0 < w.heap.size ∧ ∀ i, i < 10 → w.cell? ⟨0, i * 2, none⟩ = some (.string (nmB i)) ∧ ∃ o : Int, w.cell? ⟨0, i * 2 + 1, none⟩ = some (.int .i64 o)

theorem TabIs.later {w W : World} (h : TabIs w) (hb : Below w.heap.size w W) : TabIs W :=
  ⟨Nat.lt_of_lt_of_le h.1 hb.size, fun i hi => by
    obtain ⟨h1, o, h2⟩ := h.2 i hi
    exact ⟨(hb.cell (p := ⟨0, i * 2, none⟩) h.1).trans h1, o, (hb.cell (p := ⟨0, i * 2 + 1, none⟩) h.1).trans h2⟩⟩

set_option maxHeartbeats 400000 in
theorem closure_any (s : ByteArray) (o : Int) (tb : Nat) (ta : Option Addr) (tn tc : Nat) (t : ByteArray) (w : World) (hbox : w.cell? ⟨tb, 0, none⟩ = some (.slice ta tn tc)) (ht : TextIs w ta tn tc t) :
    Calls Ybaf.prog 11 #[.agg #[.string s, .int .i64 o], .pointer (some ⟨tb, 0, none⟩)] w fun e w' => e = .returned (.bool (s.toList == t.toList)) ∧ w' = w.alloc (.cells #[.string s, .int .i64 o] 39) := by
  have hcv := fun ob => ht (w.alloc ob) ((Below.refl _ _).alloc (Nat.le_refl _) _)
  have lt := World.block_lt_of_cell? w _ hbox
  have HT := hide ht
  clear ht
  go_enter Ybaf.func11, Ybaf.ntmps11
  go_wp2
  go_ret
  exact ⟨rfl, rfl⟩

set_option maxHeartbeats 400000 in
theorem indexFunc_any (tb : Nat) (ta : Option Addr) (tn tc : Nat) (t : ByteArray) (w : World) (htab : TabIs w) (hbox : w.cell? ⟨tb, 0, none⟩ = some (.slice ta tn tc)) (ht : TextIs w ta tn tc t) :
    Calls Ybaf.prog 10 #[.slice (some ⟨0, 0, none⟩) 10 10, .func (.func 11) #[] #[.pointer (some ⟨tb, 0, none⟩)]] w fun e w' => ∃ r : Int, e = .returned (.int .i64 r) ∧ Below w.heap.size w w' ∧
    ((∃ i : Nat, i < 10 ∧ r = i ∧ nmB i = t) ∨ (r = -1 ∧ ∀ i, i < 10 → nmB i ≠ t)) := by
  have HTB := hide htab
  have HT := hide ht
  have lt := World.block_lt_of_cell? w _ hbox
  have HBX := hide hbox
  clear htab ht hbox
  go_enter Ybaf.func10, Ybaf.ntmps10
  go_wp2
  go_loopw [8] (fun i wr => ∃ k : Nat, k ≤ 10 ∧ i = .int .i64 k ∧ Hid (∀ j, j < k → nmB j ≠ t) ∧ Below w.heap.size w wr) (fun i _ => 10 - (intOf i).toNat)
  case atStart => exact ⟨0, Nat.zero_le _, rfl, fun j hj => absurd hj (Nat.not_lt_zero _), Below.refl _ _⟩
  case round =>
    obtain ⟨k, hk, rfl, hno, hb⟩ := hrel
    by_cases hlt : k < 10
    · obtain ⟨c0, o, c1⟩ := (HTB.out.later hb).2 k hlt
      have cb : wr.cell? ⟨tb, 0, none⟩ = some (.slice ta tn tc) := (hb.cell (p := ⟨tb, 0, none⟩) lt).trans HBX.out
      have ht' := HT.out.later hb
      have HCL := hide (closure_any (nmB k) o tb ta tn tc t wr cb ht')
      have HBE := hide hb
      have hsz := hb.size
      clear ht' hb cb
      have hli : (k : Int) < 10 := by omega
      by_cases he : nmB k = t
      · have hd := bl_true he
        have HE := hide he
        clear he
        go_wp2_with fail
        refine HCL.out.mono ?_
        rintro e w1 ⟨rfl, rfl⟩
        go_wp2
        go_ret
        exact ⟨k, rfl, HBE.out.alloc hsz _, .inl ⟨k, hlt, rfl, HE.out⟩⟩
      · have hd := bl_false he
        have HE := hide he
        clear he
        go_wp2_with fail
        refine HCL.out.mono ?_
        rintro e w1 ⟨rfl, rfl⟩
        go_wp2
        go_roundw
        case rel =>
          refine ⟨k + 1, by omega, by go_num, fun j hj => ?_, HBE.out.alloc hsz _⟩
          by_cases e : j = k
          · rw [e]; exact HE.out
          · exact hno.out j (by omega)
        case measure => simp [intOf]; omega
    · go_wp2
      go_ret
      exact ⟨-1, rfl, hb, .inr ⟨rfl, fun i hi => hno.out i (by omega)⟩⟩
end Go.Proofs.YbulkkaaFmt
