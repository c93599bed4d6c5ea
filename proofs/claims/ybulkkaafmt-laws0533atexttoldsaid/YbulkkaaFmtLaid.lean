import Derived.Test.YbulkkaaFmtW3
import Derived.Test.YbulkkaaFmtCards
import Derived.Test.YbulkkaaFmtTie
import Derived.ProofKit
import Derived.OpenShut
import Derived.LaidMore
import Derived.ChangeOld
import Derived.WalkSmall
import Derived.SizedLaws
import Derived.Stop.Joined
import Derived.Stop.JoinedAt
import Derived.Stop.JoinedTold
import Derived.Deep.DeepWitnessRef
namespace Go.Proofs.YbulkkaaFmt
open Go.ChangeShapes Go.WideShapes Go.ChangeAt Go.RowKit
open Go.Extern.Stop Go.Stop Go.Extern

theorem own : ownKnob Ybaf.prog.godebug = none := by kernel_rfl
theorem laidOut : laidOutB Ybaf.prog = true := by kernel_rfl
theorem gTab : Ybaf.prog.globalNamed (Rows.lawS0533AKnownSpec.vars.getD 0 default) = some 0 := by kernel_rfl
theorem tTab : (Ybaf.prog.globals[0]?).map (·.type) = some 40 := by kernel_rfl

/-- The door's own heap meets the condition. -/
theorem door_met (os : Os) (args : Array Value) : laidMetH Ybaf.prog Rows.lawS0533AKnownRow.laid ((World.doorLaid Ybaf.prog 24 os).forCall (fun _ _ => 0) ⟨#[], args, []⟩).memory :=
  laidMetH_of_parts3 (fuel := 8) (laidMet_of_run' 8 (by kernel_rfl) (by kernel_rfl)) (by kernel_rfl) (by kernel_rfl)

theorem c39 : Ybaf.prog.cellsOf 39 = 2 := by kernel_rfl
theorem c9 : Ybaf.prog.cellsOf 9 = 1 := by kernel_rfl
theorem c37 : Ybaf.prog.cellsOf 37 = 1 := by kernel_rfl

theorem cell_a {l : List Value} {a : Nat} {x : Value} (h : ((((l.drop a).take 2).drop 0).take 1) = [x]) : l[a]? = some x := by
  have := congrArg (·[0]?) h
  simpa [List.getElem?_take, List.getElem?_drop] using this
theorem cell_b {l : List Value} {a : Nat} {x : Value} (h : ((((l.drop a).take 2).drop 1).take 1) = [x]) : l[a + 1]? = some x := by
  have := congrArg (·[0]?) h
  simpa [List.getElem?_take, List.getElem?_drop] using this

def opN : Nat → Int
  | 0 => 0 | 1 => 1 | 2 => 2 | 3 => 3 | 4 => 4 | 5 => 4 | 6 => 3 | _ => 4

theorem laid_parts (xs : List (DataW Unit)) (h : Rows.laid_example_com_tagfold_tagfold_bucketFuncs = DataW.agg xs) (i : Nat) (hi : i < 10) :
    xs[i]? = some (.agg [.lit (.string (nmL i)), .lit (.int .i64 (opN i))]) := by
  unfold Rows.laid_example_com_tagfold_tagfold_bucketFuncs at h
  simp only [DataW.agg.injEq] at h
  subst h
  match i, hi with
  | 0, _ | 1, _ | 2, _ | 3, _ | 4, _ | 5, _ | 6, _ | 7, _ | 8, _ | 9, _ => rfl

/-- WHAT THE CONDITION GIVES THE WALKS. -/
theorem of_laid {W : World} (h : laidMetH Ybaf.prog Rows.lawS0533AKnownRow.laid W) : TabIs W := by
  rw [MakeChecks.laidMetH_plain _ _ _ (by kernel_rfl)] at h
  obtain ⟨ps, ⟨g0, t0, cs0, f0, p0, q0, hg0, ht0, hv0, hd0, _, _⟩, _, _⟩ := h
  obtain rfl := Option.some.inj (gTab.symm.trans hg0)
  obtain rfl := Option.some.inj (tTab.symm.trans ht0)
  obtain ⟨xs, m, _, hx, hcl, hxl, hel⟩ := DataW.trod_array Ybaf.underlying40 hd0
  simp only [Prod.mk.injEq] at hx
  have hcell := World.var?_cell hg0 hv0
  have key : ∀ i, i < 10 → W.cell? ⟨0, i * 2, none⟩ = some (.string (nmB i)) ∧ ∃ o : Int, W.cell? ⟨0, i * 2 + 1, none⟩ = some (.int .i64 o) := by
    intro i hi
    have h1 := hel i hi
    have h2 := laid_parts (xs.map (·.1)) hx.1 i hi
    rw [List.getElem?_map] at h2
    cases hy : xs[i]? with
    | none => rw [hy] at h2; cases h2
    | some y =>
      rw [hy] at h1 h2
      simp only [Option.map_some, Option.some.injEq] at h2
      rw [c39] at h1
      obtain ⟨y0, y1, k, e1, _, f1, f2⟩ := trod_struct2 Ybaf.underlying39 h1
      rw [e1] at h2
      simp only [DataW.agg.injEq, List.cons.injEq, and_true] at h2
      obtain ⟨s, es, ey, _⟩ := DataW.trod_string Ybaf.underlying9 f1
      obtain ⟨o, eo, _, _⟩ := DataW.trod_int Ybaf.underlying37 f2
      rw [c9] at es
      rw [c37] at eo
      rw [ey] at h2
      have hs : s = nmB i := by
        have : s.data.toList = nmL i := by simpa using h2.1
        unfold nmB
        rw [← this]
      rw [hcell, hcell]
      subst hs
      exact ⟨by simpa using cell_a es, o, by simpa using cell_b eo⟩
  exact ⟨Nat.lt_of_le_of_lt (Nat.zero_le _) (World.block_lt_of_cell? W _ (key 0 (by omega)).1), key⟩

/-- The named variable reads behind the call as before it. -/
theorem var_again {H : Type} {enc : TypeId × Value → H} {W W' : World} {gs : List (DataW H)} {q : List MemPlace}
    (hV : DataW.TrodVars enc Ybaf.prog W (fun _ => true) Rows.lawS0533AKnownSpec.vars gs q) (hb : Below W.heap.size W W') :
    ∃ d, gs = [d] ∧ DataW.TrodVars enc Ybaf.prog W' (fun b => decide (b < W.heap.size)) Rows.lawS0533AKnownSpec.vars [d] q := by
  obtain ⟨g, t, cs, fuel, d, p', rfl, hg, ht, hvar, hd, rfl⟩ := trodVars_one hV
  obtain rfl := Option.some.inj (gTab.symm.trans hg)
  obtain rfl := Option.some.inj (tTab.symm.trans ht)
  have hlt : ∀ x ∈ p', x.block < W.heap.size := DataW.trod_lt fuel _ _ _ hd
  have h0 : 0 < W.heap.size := by
    have : W.heap[0]? ≠ none := by
      intro e
      simp only [World.var?, hg, Option.bind_some, e] at hvar
      cases hvar
    rcases Nat.lt_or_ge 0 W.heap.size with h | h
    · exact h
    · exact absurd (Array.getElem?_eq_none h) this
  obtain ⟨fuel', hd'⟩ := Below.trod laidOut (by kernel_rfl) (of_decide_eq_true (by kernel_rfl)) (v := .agg cs) (⟨fuel, hd⟩ : DataW.Trod enc Ybaf.prog W 0 (fun _ => true) true 40 (.agg cs) d p') hb hlt
  exact ⟨d, rfl, trodVars_mk1 (enc := enc) hg ht (var?_below hb hg h0 hvar) hd'⟩

theorem stops : Ybaf.pinned.checked.prog.stops = Rows.lawS0533AKnownRow.stops := by kernel_rfl
theorem stopKnobs : Ybaf.pinned.checked.prog.stopKnobs = [] := by kernel_rfl
theorem quiet (os : Os) : Stop.quiet Ybaf.pinned.checked.prog os := by
  intro k hk
  rw [stopKnobs] at hk
  cases hk
theorem laidOutP : laidOutB Ybaf.pinned.checked.prog = true := by kernel_rfl
end Go.Proofs.YbulkkaaFmt
