import Derived.Test.YbulkkdgDoorRows
import Derived.WalkKit
import Derived.WalkSpells
import Derived.WalkLawsBesides
import Derived.PlainAid
import Derived.Lib.AppendStr
namespace Go.Proofs.YbulkkdgDoor
open Go.RowKit Go.PlainAid

theorem hide {p : Prop} (h : p) : Hid p := h

/-- Does the value need quotes? -/
def NQ (s : ByteArray) : Prop := s.size = 0 ∨ bt s 0 = 34 ∨ bt s 0 = 32 ∨ bt s (s.size - 1) = 32 ∨ ∃ k, k < s.size ∧ bt s k < 32

theorem empty_of {s : ByteArray} (h0 : s.size = 0) : s = ⟨#[]⟩ := by
  cases s with | mk d =>
  have : d = #[] := Array.eq_empty_of_size_eq_zero h0
  rw [this]

theorem nonempty_of {s : ByteArray} (h0 : ¬ s.size = 0) : s.toList.isEmpty = false := by
  rw [Go.ByteArray.toList_eq]
  cases s with | mk d =>
  rw [List.isEmpty_eq_false_iff]
  intro h
  have : d = #[] := by simpa using h
  exact h0 (by rw [this]; rfl)
theorem beq_no {a b : Int} (h : ¬ a = b) : (a == b) = false := by simpa using h

theorem bl_true {a b : ByteArray} (h : a = b) : (a.toList == b.toList) = true := by rw [h]; simp
theorem bl_false {a b : ByteArray} (h : ¬ a = b) : (a.toList == b.toList) = false := by
  rw [Go.ByteArray.toList_eq, Go.ByteArray.toList_eq]
  cases a; cases b
  simp at h ⊢
  exact h

theorem nq_iff {s : ByteArray} (h0 : ¬ s.size = 0) (h1 : ¬ bt s 0 = 34) (h2 : ¬ bt s 0 = 32) (h3 : ¬ bt s (s.size - 1) = 32) : NQ s ↔ ∃ k, k < s.size ∧ bt s k < 32 := by
  simp [NQ, h0, h1, h2, h3]

set_option maxHeartbeats 400000 in
theorem needs_any (s : ByteArray) (w : World) (hs : s.size ≤ 1024) : Calls Ybad.prog 10 #[.string s] w fun e w' => w' = w ∧ ((NQ s ∧ e = .returned (.bool true)) ∨ (¬ NQ s ∧ e = .returned (.bool false))) := by
  have hb := get_bt s
  by_cases h0 : s.size = 0
  · have he := empty_of h0
    subst he
    go_enter Ybad.func10, Ybad.ntmps10
    go_wp2
    go_ret
    exact ⟨rfl, .inl ⟨.inl rfl, rfl⟩⟩
  · have hne : s.toList.isEmpty = false := nonempty_of h0
    have hsz : 0 < s.size := by omega
    have hlast : ((s.size : Int) - 1).toNat = s.size - 1 := by omega
    by_cases h1 : bt s 0 = 34
    · have hq : NQ s := .inr (.inl h1)
      clear h0
      have HQ := hide hq
      clear hq
      go_enter Ybad.func10, Ybad.ntmps10
      go_wp2
      go_ret
      exact ⟨rfl, .inl ⟨HQ.out, rfl⟩⟩
    by_cases h2 : bt s 0 = 32
    · have g1 := beq_no h1
      clear h1
      have hq : NQ s := .inr (.inr (.inl h2))
      have HQ := hide hq
      clear hq
      go_enter Ybad.func10, Ybad.ntmps10
      go_wp2
      go_ret
      exact ⟨rfl, .inl ⟨HQ.out, rfl⟩⟩
    by_cases h3 : bt s (s.size - 1) = 32
    · have g1 := beq_no h1
      have g2 := beq_no h2
      clear h1 h2
      have hq : NQ s := .inr (.inr (.inr (.inl h3)))
      have HQ := hide hq
      clear hq
      go_enter Ybad.func10, Ybad.ntmps10
      go_wp2
      go_ret
      exact ⟨rfl, .inl ⟨HQ.out, rfl⟩⟩
    have HI := hide (nq_iff h0 h1 h2 h3)
    have g1 := beq_no h1
    have g2 := beq_no h2
    have g3 := beq_no h3
    clear h1 h2 h3
    go_enter Ybad.func10, Ybad.ntmps10
    go_wp2
    go_loop [26] (fun i => ∃ k : Nat, k ≤ s.size ∧ i = .int .i64 k ∧ Hid (∀ j, j < k → ¬ bt s j < 32)) (fun i => s.size - (intOf i).toNat)
    case atStart => exact ⟨0, Nat.zero_le _, rfl, fun j hj => absurd hj (Nat.not_lt_zero _)⟩
    case round =>
      obtain ⟨k, hk, rfl, hno⟩ := hrel
      by_cases hlt : k < s.size
      · by_cases hc : bt s k < 32
        · go_wp2
          go_ret
          exact ⟨rfl, .inl ⟨HI.out.2 ⟨k, hlt, hc⟩, rfl⟩⟩
        · go_wp2
          go_round
          case rel =>
            refine ⟨k + 1, by omega, by go_num, fun j hj => ?_⟩
            by_cases e : j = k
            · rw [e]; exact hc
            · exact hno.out j (by omega)
          case measure => simp [intOf]; omega
      · go_wp2
        go_ret
        refine ⟨rfl, .inr ⟨fun h => ?_, rfl⟩⟩
        obtain ⟨j, hj, hj2⟩ := HI.out.1 h
        have := hno.out j (by omega)
        omega

set_option maxHeartbeats 400000 in
theorem aquote_any (s : ByteArray) (w : World) (hs : s.size ≤ 1024) : Calls Ybad.prog 6 #[.string s] w fun e w' => w' = w ∧ ((NQ s ∧ e = .returned (.bool true)) ∨ (¬ NQ s ∧ e = .returned (.bool false))) := by
  have hb := get_bt s
  by_cases h0 : s.size = 0
  · go_enter Ybad.func6, Ybad.ntmps6
    go_wp2
    go_ret
    exact ⟨rfl, .inl ⟨.inl h0, rfl⟩⟩
  · have hsz : 0 < s.size := by omega
    have hlast : ((s.size : Int) - 1).toNat = s.size - 1 := by omega
    by_cases h1 : bt s 0 = 34
    · have hq : NQ s := .inr (.inl h1)
      have HQ := hide hq
      clear hq
      go_enter Ybad.func6, Ybad.ntmps6
      go_wp2
      go_ret
      exact ⟨rfl, .inl ⟨HQ.out, rfl⟩⟩
    by_cases h2 : bt s 0 = 32
    · have g1 := beq_no h1
      clear h1
      have hq : NQ s := .inr (.inr (.inl h2))
      have HQ := hide hq
      clear hq
      go_enter Ybad.func6, Ybad.ntmps6
      go_wp2
      go_ret
      exact ⟨rfl, .inl ⟨HQ.out, rfl⟩⟩
    by_cases h3 : bt s (s.size - 1) = 32
    · have g1 := beq_no h1
      have g2 := beq_no h2
      clear h1 h2
      have hq : NQ s := .inr (.inr (.inr (.inl h3)))
      have HQ := hide hq
      clear hq
      go_enter Ybad.func6, Ybad.ntmps6
      go_wp2
      go_ret
      exact ⟨rfl, .inl ⟨HQ.out, rfl⟩⟩
    have HI := hide (nq_iff h0 h1 h2 h3)
    have g1 := beq_no h1
    have g2 := beq_no h2
    have g3 := beq_no h3
    clear h1 h2 h3
    go_enter Ybad.func6, Ybad.ntmps6
    go_wp2
    go_loop [3] (fun i => ∃ k : Nat, k ≤ s.size ∧ i = .int .i64 k ∧ Hid (∀ j, j < k → ¬ bt s j < 32)) (fun i => s.size - (intOf i).toNat)
    case atStart => exact ⟨0, Nat.zero_le _, rfl, fun j hj => absurd hj (Nat.not_lt_zero _)⟩
    case round =>
      obtain ⟨k, hk, rfl, hno⟩ := hrel
      by_cases hlt : k < s.size
      · by_cases hc : bt s k < 32
        · go_wp2
          go_ret
          exact ⟨rfl, .inl ⟨HI.out.2 ⟨k, hlt, hc⟩, rfl⟩⟩
        · go_wp2
          go_round
          case rel =>
            refine ⟨k + 1, by omega, by go_num, fun j hj => ?_⟩
            by_cases e : j = k
            · rw [e]; exact hc
            · exact hno.out j (by omega)
          case measure => simp [intOf]; omega
      · go_wp2
        go_ret
        refine ⟨rfl, .inr ⟨fun h => ?_, rfl⟩⟩
        obtain ⟨j, hj, hj2⟩ := HI.out.1 h
        have := hno.out j (by omega)
        omega

/-- The escape of a byte; empty: none. -/
def esc (c : Int) : List UInt8 := if c = 92 then [92, 92] else if c = 34 then [92, 34] else if c = 10 then [92, 110] else if c = 9 then [92, 116] else if c = 8 then [92, 98] else []
def escB (c : Int) : ByteArray := ⟨(esc c).toArray⟩

set_option maxHeartbeats 400000 in
theorem esc_any (c : Int) (w : World) : Calls Ybad.prog 7 #[.int .u8 c] w fun e w' => e = .returned (.string (escB c)) ∧ w' = w := by
  by_cases h1 : c = 92
  · subst h1
    go_enter Ybad.func7, Ybad.ntmps7
    go_wp2
    go_ret
    exact ⟨rfl, rfl⟩
  by_cases h2 : c = 34
  · subst h2
    go_enter Ybad.func7, Ybad.ntmps7
    go_wp2
    go_ret
    exact ⟨rfl, rfl⟩
  by_cases h3 : c = 10
  · subst h3
    go_enter Ybad.func7, Ybad.ntmps7
    go_wp2
    go_ret
    exact ⟨rfl, rfl⟩
  by_cases h4 : c = 9
  · subst h4
    go_enter Ybad.func7, Ybad.ntmps7
    go_wp2
    go_ret
    exact ⟨rfl, rfl⟩
  by_cases h5 : c = 8
  · subst h5
    go_enter Ybad.func7, Ybad.ntmps7
    go_wp2
    go_ret
    exact ⟨rfl, rfl⟩
  have he : escB c = ⟨#[]⟩ := by simp [escB, esc, h1, h2, h3, h4, h5]
  have HE := hide he
  clear he
  go_enter Ybad.func7, Ybad.ntmps7
  go_wp2
  go_ret
  exact ⟨by rw [HE.out]; rfl, rfl⟩
end Go.Proofs.YbulkkdgDoor
