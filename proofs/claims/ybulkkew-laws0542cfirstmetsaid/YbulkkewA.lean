import Derived.Test.YbulkkewRows
import Derived.WalkKit
import Derived.WalkSpells
import Derived.WalkLawsBesides
import Derived.Maps.OwnSet
namespace Go.Proofs.Ybulkkew
open Go.RowKit

theorem hide {p : Prop} (h : p) : Hid p := h

/-- The table's words. -/
def word (k : Nat) : ByteArray := match k with
  | 0 => ⟨#[97]⟩
  | 1 => ⟨#[98]⟩
  | 2 => ⟨#[112, 34, 113]⟩
  | _ => ⟨#[]⟩

set_option maxHeartbeats 400000 in
theorem ctable_any (k : Nat) (w : World) (hk : k < 4) : Calls Yba.prog 5 #[.int .i64 (k : Int)] w fun e w' => e = .returned (.string (word k)) ∧ w' = w := by
  have h4 : k = 0 ∨ k = 1 ∨ k = 2 ∨ k = 3 := by omega
  rcases h4 with rfl | rfl | rfl | rfl
  all_goals
    go_enter Yba.func5, Yba.ntmps5
    go_wp2
    go_ret
    exact ⟨rfl, rfl⟩

/-- A byte (a rune) that needs an escape. -/
def badR (x : Nat) : Bool := decide (x = 34 ∨ x = 92 ∨ x < 32)

set_option maxHeartbeats 400000 in
theorem closure_any (x : Nat) (w : World) : Calls Yba.prog 9 #[.int .i32 (x : Int)] w fun e w' => e = .returned (.bool (badR x)) ∧ w' = w := by
  by_cases h1 : x = 34
  · subst h1
    go_enter Yba.func9, Yba.ntmps9
    go_wp2
    go_ret
    exact ⟨rfl, rfl⟩
  by_cases h2 : x = 92
  · subst h2
    go_enter Yba.func9, Yba.ntmps9
    go_wp2
    go_ret
    exact ⟨rfl, rfl⟩
  have g1 : (((x : Int)) == 34) = false := by simp; omega
  have g2 : (((x : Int)) == 92) = false := by simp; omega
  by_cases h3 : x < 32
  · have he : badR x = true := by simp [badR, h3]
    have HE := hide he
    have h3' : (x : Int) < 32 := by omega
    clear he h1 h2
    go_enter Yba.func9, Yba.ntmps9
    go_wp2
    go_ret
    exact ⟨by rw [HE.out]; rfl, rfl⟩
  · have he : badR x = false := by simp [badR, h1, h2, h3]
    have HE := hide he
    have h3' : ¬ (x : Int) < 32 := by omega
    clear he h1 h2
    go_enter Yba.func9, Yba.ntmps9
    go_wp2
    go_ret
    exact ⟨by rw [HE.out]; rfl, rfl⟩

set_option maxHeartbeats 400000 in
theorem newReader_any (w : World) : Calls Yba.prog 4 #[.pointer none] w fun e w' => e = .returned (.pointer (some ⟨w.heap.size + 1, 0, none⟩)) ∧ ∃ C : Array Value, w' = (w.alloc (.map #[] 0)).alloc (.cells C 48) ∧
    C[2]? = some (.slice none 0 0) ∧ C[3]? = some (.map (some w.heap.size)) ∧ C[4]? = some (.slice none 0 0) ∧ C[5]? = some (.slice none 0 0) ∧ C[6]? = some (.slice none 0 0) ∧ C[7]? = some (.slice none 0 0) ∧ C[8]? = some (.slice none 0 0) ∧ C[9]? = some (.slice none 0 0) := by
  have hmk := fun w => run_makeMap (P := Yba.prog) 29 w
  go_enter Yba.func4, Yba.ntmps4
  go_wp2
  go_ret
  exact ⟨rfl, _, rfl, rfl, rfl, rfl, rfl, rfl, rfl, rfl, rfl⟩
end Go.Proofs.Ybulkkew
