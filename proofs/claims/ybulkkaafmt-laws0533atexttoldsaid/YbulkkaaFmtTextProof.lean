import Derived.Test.YbulkkaaFmtLaid
import Derived.Test.YbulkkaaFmtW5
namespace Go.Proofs.YbulkkaaFmt
open Go.ChangeShapes Go.WideShapes Go.ChangeAt Go.RowKit
open Go.Extern.Stop Go.Stop Go.Extern

/-- The table's block, out of the condition. -/
theorem blk_of_laid {W : World} (h : laidMetH Ybaf.prog Rows.lawS0533AKnownRow.laid W) : TabBlk opN W := by
  rw [MakeChecks.laidMetH_plain _ _ _ (by kernel_rfl)] at h
  obtain ⟨ps, ⟨g0, t0, cs0, f0, p0, q0, hg0, ht0, hv0, hd0, _, _⟩, _, _⟩ := h
  obtain rfl := Option.some.inj (gTab.symm.trans hg0)
  obtain rfl := Option.some.inj (tTab.symm.trans ht0)
  obtain ⟨xs, m, _, hx, hcl, hxl, hel⟩ := DataW.trod_array Ybaf.underlying40 hd0
  simp only [Prod.mk.injEq] at hx
  have key : ∀ i, i < 10 → cs0[i * 2]? = some (.string (nmB i)) ∧ cs0[i * 2 + 1]? = some (.int .i64 (opN i)) := by
    intro i hi
    have h1 := hel i hi
    have h2 := laid_parts (xs.map (·.1)) hx.1 i hi
    rw [List.getElem?_map] at h2
    cases hy : xs[i]? with
    | none => rw [hy] at h2; cases h2
    | some y =>
      rw [hy] at h1 h2
      simp only [Option.map_some, Option.some.injEq] at h2
      rw [c39] at h1
      obtain ⟨y0, y1, k, e1, _, f1, f2⟩ := trod_struct2 Ybaf.underlying39 h1
      rw [e1] at h2
      simp only [DataW.agg.injEq, List.cons.injEq, and_true] at h2
      obtain ⟨s, es, ey, _⟩ := DataW.trod_string Ybaf.underlying9 f1
      obtain ⟨o, eo, ez, _⟩ := DataW.trod_int Ybaf.underlying37 f2
      rw [c9] at es
      rw [c37] at eo
      rw [ey, ez] at h2
      have hs : s = nmB i := by
        have : s.data.toList = nmL i := by simpa using h2.1
        unfold nmB
        rw [← this]
      have ho : o = opN i := by simpa using h2.2
      subst hs
      subst ho
      exact ⟨by simpa using cell_a es, by simpa using cell_b eo⟩
  have hc20 : cs0.size = 20 := by
    have : Ybaf.prog.cellsOf 40 = 20 := by kernel_rfl
    rw [this] at hcl
    simpa using hcl
  have heq : cs0 = tabA opN := by
    apply Array.ext_getElem?
    intro j
    by_cases hj : j < 20
    · have hq : j = (j / 2) * 2 ∨ j = (j / 2) * 2 + 1 := by omega
      have hlt : j / 2 < 10 := by omega
      generalize j / 2 = i at hq hlt
      have k2 := key i hlt
      have h10 : i = 0 ∨ i = 1 ∨ i = 2 ∨ i = 3 ∨ i = 4 ∨ i = 5 ∨ i = 6 ∨ i = 7 ∨ i = 8 ∨ i = 9 := by omega
      clear hlt hj key
      rcases hq with rfl | rfl
      · rw [k2.1]
        rcases h10 with rfl | rfl | rfl | rfl | rfl | rfl | rfl | rfl | rfl | rfl <;> rfl
      · rw [k2.2]
        rcases h10 with rfl | rfl | rfl | rfl | rfl | rfl | rfl | rfl | rfl | rfl <;> rfl
    · rw [Array.getElem?_eq_none (by omega), Array.getElem?_eq_none (by show 20 ≤ j; omega)]
  subst heq
  simp only [World.var?, hg0, Option.bind_some] at hv0
  split at hv0
  · rename_i c t fr hh
    simp only [Option.some.injEq] at hv0
    subst hv0
    exact ⟨_, _, hh⟩
  · cases hv0

theorem text_row (os : Os) {H : Type} (enc : TypeId × Value → H) : (OpenSpec.ofChange Rows.lawS0533ATextSpec).preRow enc Ybaf.prog Ybaf.f4 Rows.lawS0533ATextRow.domain false Rows.lawS0533ATextRow.laid
    ((World.doorLaid Ybaf.prog 24 os).forCall (fun _ _ => 0) ⟨#[], #[.slice none 0 0, .int .i64 0], []⟩).memory #[.slice none 0 0, .int .i64 0] :=
  OpenSpec.preRow_of_B rfl 8 (by kernel_rfl) (by kernel_rfl) (door_met os _)

set_option maxRecDepth 100000 in
theorem text_lifted (os : Os) (started : os.Started) (H : Type) (enc : TypeId × Value → H) :
    ReturnsInTold none {} Ybaf.checked os 4 .any Input.okWide ((OpenSpec.ofChange Rows.lawS0533ATextSpec).preRow enc Ybaf.prog Ybaf.f4 Rows.lawS0533ATextRow.domain false Rows.lawS0533ATextRow.laid)
      (fun F => ((OpenSpec.ofChange Rows.lawS0533ATextSpec).at F).post enc Ybaf.prog Ybaf.f4 false true false false) (aloneAtReturn Ybaf.prog) nothingAlways := by
  refine returnsInTold_of_row (C := Ybaf.checked) (s := OpenSpec.ofChange Rows.lawS0533ATextSpec) (by kernel_rfl) own started (by kernel_rfl) Ybaf.func4
    (OpenSpec.witness_stopped_atRef (enc := enc) (C := Ybaf.checked) false (World.doorLaid Ybaf.prog 24 os) #[.slice none 0 0, .int .i64 0] rfl (by kernel_rfl) (by kernel_rfl) (by kernel_rfl) (text_row os enc)) ?_
  intro F W base args ds gs before _ hF hval0 hW _ _ _ hL _
  have hval : ∀ (j : Nat) t v, Ybaf.f4.params[j]? = some t → args[j]? = some v → Value.okWide Ybaf.prog W .any base t v := hval0
  have hW' := hW
  obtain ⟨p, q, hA0, hV0, rfl, _, _⟩ := hW
  have hA : DataW.TrodAll enc Ybaf.prog W 0 (fun _ => true) true Ybaf.f4.params.toList args.toList ds p := hA0
  have hV : DataW.TrodVars enc Ybaf.prog W (fun _ => true) Rows.lawS0533AKnownSpec.vars gs q := hV0
  rw [Ybaf.params4] at hA hval
  obtain ⟨v0, v1, d0, d1, p0, p1, rfl, rfl, rfl, h0, h1⟩ := trodAll_two hA
  obtain ⟨ta, n, cap, rfl⟩ := okWide_slice Ybaf.underlying28 (hval 0 28 v0 rfl rfl)
  obtain ⟨start, rfl, rfl, rfl, w1⟩ := open_int Ybaf.underlying3 (hval 1 3 v1 rfl rfl) h1
  have k0 := h0
  have lt0 : ∀ x ∈ p0, x.block < W.heap.size := by obtain ⟨m, hm⟩ := k0; exact DataW.trod_lt m _ _ _ hm
  clear hA0 hV0 hval0
  have walk : Calls Ybaf.prog 4 #[.slice ta n cap, .int .i64 start] W fun e w' => e = .returned (.bool true) ∧ Below W.heap.size W w' := by
    obtain ⟨fuel, hf⟩ := h0
    rcases open_ints Ybaf.underlying28 Ybaf.underlying5 (by kernel_rfl) hf with ⟨hcs, _⟩ | ⟨x, l, c, zs, hcs, _, hl, hm, hz, _, hcell, _⟩
    · simp [Value.cells] at hcs
      obtain ⟨rfl, rfl, rfl⟩ := hcs
      exact text_nil F.told opN start W hF (blk_of_laid hL)
    · simp [Value.cells] at hcs
      obtain ⟨rfl, rfl, rfl⟩ := hcs
      simp only [if_true] at hz
      by_cases hn : n ≤ 4096
      · have hlen : (zs.take n).length = n := by simp; omega
        have hsrc : Src W (some x) (zs.take n) := ⟨fun h => (by cases h), fun a ha j v hj => by
          cases ha
          have hjn : j < n := by
            have := (List.getElem?_eq_some_iff.1 hj).1
            rw [List.length_map, hlen] at this
            exact this
          rw [hcell j (by omega)]
          rw [List.getElem?_map, List.getElem?_take_of_lt hjn, List.getElem?_eq_getElem (by omega)] at hj
          simp only [Option.map_some, Option.some.injEq] at hj
          rw [← hj]
          simp [List.getD, show j < zs.length by omega]⟩
        have := text_main F.told opN x (zs.take n) cap start W hF (blk_of_laid hL) (by omega) hsrc
        rwa [hlen] at this
      · exact text_long _ n cap start W (by omega) (by omega)
  refine walk.mono fun e W' ⟨he, bel⟩ => ?_
  subst he
  obtain ⟨d, rfl, hv'⟩ := var_again hV bel
  exact ⟨_, rfl, _, _, _, [], _, _, hW', trodAll_mk1 (shut_bool Ybaf.underlying4 _), trodAll_mk2 (Below.trod laidOut (by kernel_rfl) (of_decide_eq_true (by kernel_rfl)) k0 bel lt0) (shut_int Ybaf.underlying3 w1), hv', bel.frame _, fun h => by cases h⟩

/-- THE STATEMENT. -/
theorem text_proved : Rows.LawS0533ATextToldSaid :=
  Claim7.holds_of_told_tied_any_at .later 4 Ybaf.f4 _ _ [] _ _ _ _ _ (by kernel_rfl) rfl rfl rfl laidOutP (by kernel_rfl) rfl ⟨rfl, rfl, rfl, rfl, rfl, rfl, rfl⟩ rfl rfl (by kernel_rfl) (by kernel_rfl) Ybaf.func4 (by kernel_rfl)
    (of_decide_eq_true (by kernel_rfl)) (by unfold Func.isWrapper; first | (rw [if_pos (by decide +kernel)]; kernel_rfl) | (rw [if_neg (by decide +kernel)]; exact ⟨rfl, rfl⟩)) stops.symm rfl stopKnobs.symm (by kernel_rfl)
    (by kernel_rfl) (by kernel_rfl) (by kernel_rfl) (by kernel_rfl) (by kernel_rfl) (by kernel_rfl) (by kernel_rfl) (by kernel_rfl) (by kernel_rfl) rfl (by kernel_rfl) rfl rfl
    rfl rfl
    rfl (by kernel_rfl) (by kernel_rfl) (by kernel_rfl) (by decide) (by kernel_rfl) lawS0533AText_row_tie
    (OpenClaim.moreEntering_of (by kernel_rfl) (by kernel_rfl) (by kernel_rfl) (by kernel_rfl) (by kernel_rfl) (by kernel_rfl) (by kernel_rfl) (by kernel_rfl) (by kernel_rfl) (by kernel_rfl))
    ⟨_, WideRow.started_initial, quiet _⟩
    (fun os started _ H enc _ => text_lifted os started H enc)
end Go.Proofs.YbulkkaaFmt
