import Derived.Test.YbulkkaaRows
import Derived.WalkKit
import Derived.WalkSpells
import Derived.WalkLawsBesides
import Derived.Deep.QuietTactic
import Derived.BigQuiet
namespace Go.Proofs.Ybulkkaa
open Go.RowKit

theorem Yba.info37 : (Yba.prog.info? 37).map (fun i => (i.zero, i.size, i.bytes)) = some (some (.agg #[.string ByteArray.empty, .slice none 0 0, .slice none 0 0]), 3, 64) := by kernel_rfl

/-- 'make([]Series, n)': the new block, for every world. -/
theorem make37 (n : Nat) (hn : n ≤ 1024) (w : World) :
    (Instr.makeSlice 26 (.int .i64 (n : Int)) (.int .i64 (n : Int))).run Yba.prog w = .ok (.slice (some ⟨w.heap.size, 0, none⟩) n n) (w.alloc (.cells (madeCells #[.string ByteArray.empty, .slice none 0 0, .slice none 0 0] (n * 3)) 37)) := by
  obtain ⟨i, hi, hz, hs, hb⟩ := info_parts Yba.info37
  have hr := run_make (P := Yba.prog) w 26 37 i _ Yba.underlying26 hi hz .i64 .i64 n n (by omega) (Int.le_refl _) (by rw [hb]; omega) (by omega)
  simp only [Int.toNat_natCast, hs] at hr
  exact hr

/-- What three stores at element k make of the row. -/
theorem set3 (c : Array Value) (n k : Nat) (hk : k < n) (hsz : c.size = n * 3) (A B C : Nat → Value)
    (hall : ∀ i, i < k → c[i * 3]? = some (A i) ∧ c[i * 3 + 1]? = some (B i) ∧ c[i * 3 + 2]? = some (C i)) :
    (((c.setIfInBounds (k * 3) (A k)).setIfInBounds (k * 3 + 1) (B k)).setIfInBounds (k * 3 + 2) (C k)).size = n * 3 ∧
    ∀ i, i < k + 1 → (((c.setIfInBounds (k * 3) (A k)).setIfInBounds (k * 3 + 1) (B k)).setIfInBounds (k * 3 + 2) (C k))[i * 3]? = some (A i) ∧
      (((c.setIfInBounds (k * 3) (A k)).setIfInBounds (k * 3 + 1) (B k)).setIfInBounds (k * 3 + 2) (C k))[i * 3 + 1]? = some (B i) ∧
      (((c.setIfInBounds (k * 3) (A k)).setIfInBounds (k * 3 + 1) (B k)).setIfInBounds (k * 3 + 2) (C k))[i * 3 + 2]? = some (C i) := by
  refine ⟨by simpa using hsz, fun i hi => ?_⟩
  by_cases e : i = k
  · subst e
    refine ⟨?_, ?_, ?_⟩ <;> simp [Array.getElem?_setIfInBounds] <;> omega
  · obtain ⟨h0, h1, h2⟩ := hall i (by omega)
    refine ⟨?_, ?_, ?_⟩
    · rw [Array.getElem?_setIfInBounds_ne (by omega), Array.getElem?_setIfInBounds_ne (by omega), Array.getElem?_setIfInBounds_ne (by omega)]; exact h0
    · rw [Array.getElem?_setIfInBounds_ne (by omega), Array.getElem?_setIfInBounds_ne (by omega), Array.getElem?_setIfInBounds_ne (by omega)]; exact h1
    · rw [Array.getElem?_setIfInBounds_ne (by omega), Array.getElem?_setIfInBounds_ne (by omega), Array.getElem?_setIfInBounds_ne (by omega)]; exact h2

set_option maxRecDepth 100000 in
set_option maxHeartbeats 400000 in
theorem series_any (sb g : Nat) (ao : Option Addr) (n cap : Nat) (P : Nat → Nat) (nm : Nat → ByteArray) (pa : Nat → Option Addr) (pk : Nat → Nat) (w : World)
    (hn : n ≤ 1024) (h0 : w.cell? ⟨sb, 0, none⟩ = some (.slice ao n cap)) (hao : 0 < n → ao = some ⟨g, 0, none⟩)
    (hp : ∀ i, i < n → w.cell? ⟨g, i, none⟩ = some (.pointer (some ⟨P i, 0, none⟩)))
    (hc0 : ∀ i, i < n → w.cell? ⟨P i, 0, none⟩ = some (.string (nm i)))
    (hc1 : ∀ i, i < n → w.cell? ⟨P i, 1, none⟩ = some (.slice none 0 0))
    (hc2 : ∀ i, i < n → w.cell? ⟨P i, 2, none⟩ = some (.slice (pa i) (pk i) (pk i))) :
    Calls Yba.prog 6 #[.pointer (some ⟨sb, 0, none⟩)] w fun e w' => ∃ c : Array Value, e = .returned (.slice (some ⟨w.heap.size, 0, none⟩) n n) ∧ w' = w.alloc (.cells c 37) ∧ c.size = n * 3 ∧
      ∀ i, i < n → c[i * 3]? = some (.string (nm i)) ∧ c[i * 3 + 1]? = some (.slice none 0 0) ∧ c[i * 3 + 2]? = some (.slice (pa i) (pk i) (pk i)) := by
  have hmk := make37 n hn
  have HAO : Hid (0 < n → ao = some ⟨g, 0, none⟩) := hao
  clear hao
  have hlt := World.block_lt_of_cell? w _ h0
  go_enter Yba.func6, Yba.ntmps6
  go_wp2
  go_loopw [17] (fun i wr => ∃ (k : Nat) (c : Array Value), k ≤ n ∧ i = .int .i64 k ∧ wr = w.alloc (.cells c 37) ∧ c.size = n * 3 ∧
      ∀ i, i < k → c[i * 3]? = some (.string (nm i)) ∧ c[i * 3 + 1]? = some (.slice none 0 0) ∧ c[i * 3 + 2]? = some (.slice (pa i) (pk i) (pk i)))
    (fun i _ => n - (intOf i).toNat)
  case atStart => exact ⟨0, _, Nat.zero_le _, rfl, rfl, by simp [size_madeCells], fun i hi => by omega⟩
  case round =>
    obtain ⟨k, c, hk, rfl, rfl, hsz, hall⟩ := hrel
    have HALL : Hid (∀ i, i < k → c[i * 3]? = some (.string (nm i)) ∧ c[i * 3 + 1]? = some (.slice none 0 0) ∧ c[i * 3 + 2]? = some (.slice (pa i) (pk i) (pk i))) := hall
    clear hall
    by_cases hkn : k < n
    · have e0 := HAO.out (by omega)
      subst e0
      have q0 := hp k hkn
      have q1 := hc0 k hkn
      have q2 := hc1 k hkn
      have q3 := hc2 k hkn
      have l0 := World.block_lt_of_cell? w _ q0
      have l1 := World.block_lt_of_cell? w _ q1
      obtain ⟨v0, r0⟩ : ∃ v, c[k * 3]? = some v := ⟨_, Array.getElem?_eq_getElem (by omega)⟩
      obtain ⟨v1, r1⟩ : ∃ v, c[k * 3 + 1]? = some v := ⟨_, Array.getElem?_eq_getElem (by omega)⟩
      obtain ⟨v2, r2⟩ : ∃ v, c[k * 3 + 2]? = some v := ⟨_, Array.getElem?_eq_getElem (by omega)⟩
      clear hp hc0 hc1 hc2 h0
      go_wp2
      have S3 := set3 c n k hkn hsz (fun i => .string (nm i)) (fun _ => .slice none 0 0) (fun i => .slice (pa i) (pk i) (pk i)) HALL.out
      go_roundw
      case rel => exact ⟨k + 1, _, by omega, by go_num, rfl, S3.1, S3.2⟩
      case measure => simp [intOf]; omega
    · obtain rfl : k = n := by omega
      go_wp2
      go_ret
      exact ⟨c, rfl, rfl, hsz, HALL.out⟩
end Go.Proofs.Ybulkkaa
