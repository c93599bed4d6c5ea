import Derived.Test.YbulkkdgDoorW3
import Derived.Deep.QuietTactic
import Derived.BigQuiet
namespace Go.Proofs.YbulkkdgDoor
open Go.RowKit Go.PlainAid

/-- The same world but for draws. -/
def Sm (W wr : World) : Prop := wr.heap = W.heap ∧ wr.os = W.os ∧ wr.tape = W.tape ∧ wr.output = W.output
theorem Sm.refl (W : World) : Sm W W := ⟨rfl, rfl, rfl, rfl⟩
theorem Sm.drew {W w : World} (h : Sm W w) : Sm W w.drew := h
theorem Sm.drewN {W w : World} (h : Sm W w) (n : Nat) : Sm W (w.drewN n) := h
theorem Sm.cell {W w : World} (h : Sm W w) {a : Addr} {v : Value} (hc : W.cell? a = some v) : w.cell? a = some v := by
  rw [← hc]; simp [World.cell?, h.1]
theorem Sm.below {W w : World} (h : Sm W w) (B : Nat) : Below B W w := ⟨h.2.1, h.2.2.1, h.2.2.2, by rw [h.1]; exact Nat.le_refl _, fun k _ => by rw [h.1]⟩

/-- What a row's slice looks like, and where its bytes lie. -/
theorem Row.shape {w : World} {base : Nat} {v : Value} {zs : List Int} (h : Row w base v zs) :
    ∃ (ao : Option Addr) (g cap : Nat), v = .slice ao zs.length cap ∧ (0 < zs.length → ao = some ⟨g, 0, none⟩) ∧ ∀ i, i < zs.length → w.cell? ⟨g, i, none⟩ = some (.int .u8 (zs.getD i 0)) := by
  rcases h.2 with ⟨rfl, hn⟩ | ⟨g, cap, cur, rfl, _, hh, hcap, _, hsz, htk⟩
  · exact ⟨none, 0, 0, by rw [hn], fun h => by omega, fun i hi => by omega⟩
  · refine ⟨_, g, cap, rfl, fun _ => rfl, fun i hi => ?_⟩
    have e : cur[i]? = (zs.map (Value.int .u8))[i]? := by
      rw [← htk, List.getElem?_take_of_lt (by omega), Array.getElem?_toList]
    simp [World.cell?, hh, e, hi, List.getD]

set_option maxHeartbeats 400000 in
theorem eq_any (a1 a2 : Option Addr) (g1 g2 n c1 c2 : Nat) (z : Nat → Int) (W : World) (hn : n ≤ 8000) (h1 : 0 < n → a1 = some ⟨g1, 0, none⟩) (h2 : 0 < n → a2 = some ⟨g2, 0, none⟩)
    (k1 : ∀ i, i < n → W.cell? ⟨g1, i, none⟩ = some (.int .u8 (z i))) (k2 : ∀ i, i < n → W.cell? ⟨g2, i, none⟩ = some (.int .u8 (z i))) :
    Calls Ybad.prog 8 #[.slice a1 n c1, .slice a2 n c2] W fun e w' => e = .returned (.bool true) ∧ Hid (Sm W w') := by
  have H1 := hide h1
  have H2 := hide h2
  have K1 := hide k1
  have K2 := hide k2
  clear h1 h2 k1 k2
  go_enter Ybad.func8, Ybad.ntmps8
  go_wp2
  go_loopw [5] (fun i wr => ∃ k : Nat, k ≤ n ∧ i = .int .i64 k ∧ Hid (Sm W wr)) (fun i _ => n - (intOf i).toNat)
  case atStart => exact ⟨0, Nat.zero_le _, rfl, Sm.refl _⟩
  case round =>
    obtain ⟨k, hk, rfl, hsm⟩ := hrel
    by_cases hlt : k < n
    · have e1 := H1.out (by omega)
      have e2 := H2.out (by omega)
      subst e1 e2
      have t1 := hsm.out.cell (K1.out k hlt)
      have t2 := hsm.out.cell (K2.out k hlt)
      have hk0 : (0 : Int) ≤ (k : Int) := Int.natCast_nonneg _
      have hk1 : (k : Int) < (n : Int) := by omega
      go_wp2
      go_quiet (fail)
      go_wp2
      go_roundw
      case rel => exact ⟨k + 1, by omega, by go_num, hide (hsm.out.drewN _)⟩
      case measure => simp [intOf]; omega
    · go_wp2
      go_ret
      exact ⟨rfl, hsm⟩

theorem eq_rows {W : World} {b1 b2 : Nat} {v1 v2 : Value} {zs : List Int} (h1 : Row W b1 v1 zs) (h2 : Row W b2 v2 zs) (hl : zs.length ≤ 8000) :
    Calls Ybad.prog 8 #[v1, v2] W fun e w' => e = .returned (.bool true) ∧ Hid (Sm W w') := by
  obtain ⟨a1, g1, c1, rfl, p1, q1⟩ := h1.shape
  obtain ⟨a2, g2, c2, rfl, p2, q2⟩ := h2.shape
  exact eq_any a1 a2 g1 g2 zs.length c1 c2 (fun i => zs.getD i 0) W hl p1 p2 q1 q2
end Go.Proofs.YbulkkdgDoor
