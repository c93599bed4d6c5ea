import Derived.Test.YbulkkdgDoorLaid
import Derived.ChangeMaps5
namespace Go.Proofs.YbulkkdgDoor
open Go.ChangeShapes Go.WideShapes Go.ChangeAt Go.RowKit Go.PlainAid
open Go.ChangeMaps (open_string shut_string)

set_option maxRecDepth 100000 in
theorem format_lifted (os : Os) (started : os.Started) (H : Type) (enc : TypeId × Value → H) :
    ReturnsInHanded {} Ybad.checked os 4 .any (fun w args => (Rows.lawS0539AFormatSpec.pre enc Ybad.prog Ybad.f4 [] false w args ∧ laidMetH Ybad.prog Rows.lawS0539AFormatRow.laid w) ∧ sizedMet enc Ybad.prog Ybad.f4 (OpenSpec.ofChange Rows.lawS0539AFormatSpec) false w args)
      (Rows.lawS0539AFormatSpec.post enc Ybad.prog Ybad.f4 false true false false) := by
  refine returnsInHanded_of_change_and (C := Ybad.checked) (X := fun w _ => laidMetH Ybad.prog Rows.lawS0539AFormatRow.laid w) (fun _ _ _ hh h => h.of_heap hh) own started (by kernel_rfl) Ybad.func4
    (ChangeSpec.witness_shaped (enc := enc) (C := Ybad.checked) (os := os) (X := fun w _ => laidMetH Ybad.prog Rows.lawS0539AFormatRow.laid w) false (World.doorLaid Ybad.prog 14 os) #[.string ⟨#[]⟩] 8 rfl (World.shaped_of_RefB (by kernel_rfl) (by kernel_rfl)) (by kernel_rfl) (by kernel_rfl) (by kernel_rfl) (door_met os _)) ?_
  intro W base args ds gs before hval0 hW _ _ hL _
  have hval : ∀ (j : Nat) t v, Ybad.f4.params[j]? = some t → args[j]? = some v → Value.okWide Ybad.prog W .any base t v := hval0
  have hW' := hW
  obtain ⟨p, q, hA0, hV0, rfl, hfz, hnd⟩ := hW
  have hA : DataW.TrodAll enc Ybad.prog W 0 (fun _ => true) true Ybad.f4.params.toList args.toList ds p := hA0
  have hV : DataW.TrodVars enc Ybad.prog W (fun _ => true) Rows.lawS0539AFormatSpec.vars gs q := hV0
  rw [Ybad.params4] at hA hval
  obtain ⟨v0, d0, rfl, rfl, h0⟩ := trodAll_one hA
  obtain ⟨s, rfl, rfl, rfl, hsz⟩ := open_string Ybad.underlying9 (hval 0 9 v0 rfl rfl) h0
  obtain ⟨htab, hpos⟩ := of_laid hL
  clear hA0 hV0 hval0
  have walk : Calls Ybad.prog 4 #[.string s] W fun e w' => e = .returned (.bool true) ∧ Hid (Below W.heap.size W w') := by
    by_cases hn : s.size ≤ 1024
    · exact law_format s W hn hpos htab
    · exact law_format_long s W (by omega) hsz
  refine walk.mono fun e W' ⟨he, hbel⟩ => ?_
  subst he
  have bel := hbel.out
  obtain ⟨d, rfl, hv'⟩ := var_again hV bel
  exact ⟨_, rfl, _, _, _, [], _, _, hW', trodAll_mk1 (shut_bool Ybad.underlying4 _), trodAll_mk1 (shut_string Ybad.underlying9 hsz), hv', bel.frame _, fun h => by cases h⟩

theorem format_holds : Rows.LawS0539AFormatSaid :=
  OpenClaim.holds_of_wide 4 Ybad.f4 rfl rfl rfl rfl rfl rfl rfl ⟨rfl, rfl, rfl, rfl, rfl⟩ rfl rfl rfl rfl rfl (by kernel_rfl) Ybad.func4 (by kernel_rfl)
    (of_decide_eq_true (by kernel_rfl)) (by unfold Func.isWrapper; first | (rw [if_pos (by decide +kernel)]; kernel_rfl) | (rw [if_neg (by decide +kernel)]; exact ⟨rfl, rfl⟩))
    (fun os started H enc _ => format_lifted os started H enc)

/-- THE STATEMENT. -/
theorem format_proved : Rows.LawS0539AFormatCardSaid :=
  Claim7.holds_tied_plain_at .later [] [.data] true Rows.lawS0539AFormatCard.stood.harness false
    format_holds (fun _ h => by cases h) (by kernel_rfl) (fun _ h => by cases h) lawS0539AFormat_row_tie rfl ⟨rfl, rfl⟩ (by kernel_rfl) rfl
    (fun f fn hf hfn => by
      obtain rfl : f = 4 := Option.some.inj ((show Ybad.prog.funcNamed Rows.lawS0539AFormatRow.func = some 4 by kernel_rfl).symm.trans hf) |>.symm
      obtain rfl : fn = Ybad.f4 := (Option.some.inj (Ybad.func4.symm.trans hfn)).symm
      exact ⟨by kernel_rfl, fun j t ht => by
        rw [Ybad.params4] at ht
        have hm : t ∈ [9] := by simpa using Array.mem_of_getElem? ht
        have hall : ([9].all fun u => !Ybad.prog.wantsStandIn u) = true := by kernel_rfl
        exact (show Ybad.prog.wantsStandIn t = false by simpa using List.all_eq_true.1 hall t hm)⟩)
    (by kernel_rfl)
end Go.Proofs.YbulkkdgDoor
