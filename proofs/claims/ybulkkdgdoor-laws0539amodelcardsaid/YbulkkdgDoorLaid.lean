import Derived.Test.YbulkkdgDoorW3
import Derived.Test.YbulkkdgDoorCards
import Derived.Test.YbulkkdgDoorTie
import Derived.ProofKit
import Derived.OpenShut
import Derived.LaidMore
import Derived.ChangeOld
import Derived.WalkSmall
import Derived.SizedLaws
import Derived.SevenTiedAt
import Derived.Stop.Joined
namespace Go.Proofs.YbulkkdgDoor
open Go.ChangeShapes Go.WideShapes Go.ChangeAt Go.RowKit Go.PlainAid

theorem own : ownKnob Ybad.prog.godebug = none := by kernel_rfl
theorem laidOut : laidOutB Ybad.prog = true := by kernel_rfl
theorem gTab : Ybad.prog.globalNamed (Rows.lawS0539AFormatSpec.vars.getD 0 default) = some 0 := by kernel_rfl
theorem tTab : (Ybad.prog.globals[0]?).map (·.type) = some 29 := by kernel_rfl

/-- The door's own heap meets the condition. -/
theorem door_met (os : Os) (args : Array Value) : laidMetH Ybad.prog Rows.lawS0539AFormatRow.laid ((World.doorLaid Ybad.prog 14 os).forCall (fun _ _ => 0) ⟨#[], args, []⟩).memory :=
  laidMetH_of_parts3 (fuel := 8) (laidMet_of_run' 8 (by kernel_rfl) (by kernel_rfl)) (by kernel_rfl) (by kernel_rfl)

theorem c9 : Ybad.prog.cellsOf 9 = 1 := by kernel_rfl

theorem laid_is : Rows.laid_example_com_stanzas_for_trust_stanzas_for_trust_internal_dumpvalue_escapes (H := Unit) = .agg ((List.range 256).map fun i : Nat => .lit (.string (esc (i : Int)))) := by kernel_rfl

theorem laid_parts (xs : List (DataW Unit)) (h : Rows.laid_example_com_stanzas_for_trust_stanzas_for_trust_internal_dumpvalue_escapes = DataW.agg xs) (i : Nat) (hi : i < 256) :
    xs[i]? = some (.lit (.string (esc (i : Int)))) := by
  rw [laid_is] at h
  simp only [DataW.agg.injEq] at h
  subst h
  rw [List.getElem?_map, List.getElem?_range hi]
  rfl

theorem cell_a {l : List Value} {a : Nat} {x : Value} (h : ((l.drop a).take 1) = [x]) : l[a]? = some x := by
  have := congrArg (·[0]?) h
  simpa [List.getElem?_take, List.getElem?_drop] using this

/-- WHAT THE CONDITION GIVES THE WALKS. -/
theorem of_laid {W : World} (h : laidMetH Ybad.prog Rows.lawS0539AFormatRow.laid W) : Tab W ∧ 0 < W.heap.size := by
  rw [MakeChecks.laidMetH_plain _ _ _ (by kernel_rfl)] at h
  obtain ⟨ps, ⟨g0, t0, cs0, f0, p0, q0, hg0, ht0, hv0, hd0, _, _⟩, _, _⟩ := h
  obtain rfl := Option.some.inj (gTab.symm.trans hg0)
  obtain rfl := Option.some.inj (tTab.symm.trans ht0)
  obtain ⟨xs, m, _, hx, hcl, hxl, hel⟩ := DataW.trod_array Ybad.underlying29 hd0
  simp only [Prod.mk.injEq] at hx
  have hcell := World.var?_cell hg0 hv0
  have key : ∀ i, i < 256 → W.cell? ⟨0, i, none⟩ = some (.string (escB (i : Int))) := by
    intro i hi
    have h1 := hel i hi
    have h2 := laid_parts (xs.map (·.1)) hx.1 i hi
    rw [List.getElem?_map] at h2
    cases hy : xs[i]? with
    | none => rw [hy] at h2; cases h2
    | some y =>
      rw [hy] at h1 h2
      simp only [Option.map_some, Option.some.injEq] at h2
      rw [c9] at h1
      obtain ⟨s, es, ey, _⟩ := DataW.trod_string Ybad.underlying9 h1
      rw [ey] at h2
      have hs : s = escB (i : Int) := by
        have : s.data.toList = esc (i : Int) := by simpa using h2
        unfold escB
        rw [← this]
      rw [hcell]
      subst hs
      rw [Nat.mul_one] at es
      simpa using cell_a es
  exact ⟨fun c h0 h1 => by
    have := key c.toNat (by omega)
    rwa [Int.toNat_of_nonneg h0] at this, Nat.lt_of_le_of_lt (Nat.zero_le _) (World.block_lt_of_cell? W _ (key 0 (by omega)))⟩

/-- The named variable reads behind the call as before it. -/
theorem var_again {H : Type} {enc : TypeId × Value → H} {W W' : World} {gs : List (DataW H)} {q : List MemPlace}
    (hV : DataW.TrodVars enc Ybad.prog W (fun _ => true) Rows.lawS0539AFormatSpec.vars gs q) (hb : Below W.heap.size W W') :
    ∃ d, gs = [d] ∧ DataW.TrodVars enc Ybad.prog W' (fun b => decide (b < W.heap.size)) Rows.lawS0539AFormatSpec.vars [d] q := by
  obtain ⟨g, t, cs, fuel, d, p', rfl, hg, ht, hvar, hd, rfl⟩ := trodVars_one hV
  obtain rfl := Option.some.inj (gTab.symm.trans hg)
  obtain rfl := Option.some.inj (tTab.symm.trans ht)
  have hlt : ∀ x ∈ p', x.block < W.heap.size := DataW.trod_lt fuel _ _ _ hd
  have h0 : 0 < W.heap.size := by
    have : W.heap[0]? ≠ none := by
      intro e
      simp only [World.var?, hg, Option.bind_some, e] at hvar
      cases hvar
    rcases Nat.lt_or_ge 0 W.heap.size with h | h
    · exact h
    · exact absurd (Array.getElem?_eq_none h) this
  obtain ⟨fuel', hd'⟩ := Below.trod laidOut (by kernel_rfl) (of_decide_eq_true (by kernel_rfl)) (v := .agg cs) (⟨fuel, hd⟩ : DataW.Trod enc Ybad.prog W 0 (fun _ => true) true 29 (.agg cs) d p') hb hlt
  exact ⟨d, rfl, trodVars_mk1 (enc := enc) hg ht (var?_below hb hg h0 hvar) hd'⟩
end Go.Proofs.YbulkkdgDoor
