import Derived.Test.YbulkkdgDoorLaid
import Derived.Test.YbulkkdgDoorW5
import Derived.ChangeMaps5
namespace Go.Proofs.YbulkkdgDoor
open Go.ChangeShapes Go.WideShapes Go.ChangeAt Go.RowKit Go.PlainAid
open Go.ChangeMaps (open_string shut_string)

set_option maxHeartbeats 400000 in
theorem model_long1 (ta : Option Addr) (n cap : Nat) (s : ByteArray) (w : World) (hn : 1024 < n) (hm : n ≤ maxLen) :
    Calls Ybad.prog 3 #[.slice ta n cap, .string s] w fun e w' => e = .returned (.bool true) ∧ Hid (Below w.heap.size w w') := by
  unfold maxLen at hm
  have x1 : (1024 : Int) < (n : Int) := by omega
  go_enter Ybad.func3, Ybad.ntmps3
  go_wp2
  go_ret
  exact ⟨rfl, Below.refl _ _⟩

set_option maxHeartbeats 400000 in
theorem model_long2 (ta : Option Addr) (n cap : Nat) (s : ByteArray) (w : World) (hn : n ≤ 1024) (hs : 1024 < s.size) (hm : s.size ≤ maxLen) :
    Calls Ybad.prog 3 #[.slice ta n cap, .string s] w fun e w' => e = .returned (.bool true) ∧ Hid (Below w.heap.size w w') := by
  unfold maxLen at hm
  have x1 : ¬ (1024 : Int) < (n : Int) := by omega
  have x2 : (1024 : Int) < (s.size : Int) := by omega
  go_enter Ybad.func3, Ybad.ntmps3
  go_wp2
  go_ret
  exact ⟨rfl, Below.refl _ _⟩

set_option maxRecDepth 100000 in
theorem model_lifted (os : Os) (started : os.Started) (H : Type) (enc : TypeId × Value → H) :
    ReturnsInHanded {} Ybad.checked os 3 .any (fun w args => (Rows.lawS0539AModelSpec.pre enc Ybad.prog Ybad.f3 [] false w args ∧ laidMetH Ybad.prog Rows.lawS0539AModelRow.laid w) ∧ sizedMet enc Ybad.prog Ybad.f3 (OpenSpec.ofChange Rows.lawS0539AModelSpec) false w args)
      (Rows.lawS0539AModelSpec.post enc Ybad.prog Ybad.f3 false true false false) := by
  refine returnsInHanded_of_change_and (C := Ybad.checked) (X := fun w _ => laidMetH Ybad.prog Rows.lawS0539AModelRow.laid w) (fun _ _ _ hh h => h.of_heap hh) own started (by kernel_rfl) Ybad.func3
    (ChangeSpec.witness_shaped (enc := enc) (C := Ybad.checked) (os := os) (X := fun w _ => laidMetH Ybad.prog Rows.lawS0539AModelRow.laid w) false (World.doorLaid Ybad.prog 14 os) #[.slice none 0 0, .string ⟨#[]⟩] 8 rfl (World.shaped_of_RefB (by kernel_rfl) (by kernel_rfl)) (by kernel_rfl) (by kernel_rfl) (by kernel_rfl) (door_met os _)) ?_
  intro W base args ds gs before hval0 hW _ _ hL _
  have hval : ∀ (j : Nat) t v, Ybad.f3.params[j]? = some t → args[j]? = some v → Value.okWide Ybad.prog W .any base t v := hval0
  have hW' := hW
  obtain ⟨p, q, hA0, hV0, rfl, hfz, hnd⟩ := hW
  have hA : DataW.TrodAll enc Ybad.prog W 0 (fun _ => true) true Ybad.f3.params.toList args.toList ds p := hA0
  have hV : DataW.TrodVars enc Ybad.prog W (fun _ => true) Rows.lawS0539AFormatSpec.vars gs q := hV0
  rw [Ybad.params3] at hA hval
  obtain ⟨v0, v1, d0, d1, p0, p1, rfl, rfl, rfl, h0, h1⟩ := trodAll_two hA
  obtain ⟨ta, n, cap, rfl⟩ := okWide_slice Ybad.underlying22 (hval 0 22 v0 rfl rfl)
  obtain ⟨s, rfl, rfl, rfl, hsz⟩ := open_string Ybad.underlying9 (hval 1 9 v1 rfl rfl) h1
  obtain ⟨htab, hpos⟩ := of_laid hL
  have k0 := h0
  have lt0 : ∀ x ∈ p0, x.block < W.heap.size := by obtain ⟨m, hm⟩ := k0; exact DataW.trod_lt m _ _ _ hm
  clear hA0 hV0 hval0
  have walk : Calls Ybad.prog 3 #[.slice ta n cap, .string s] W fun e w' => e = .returned (.bool true) ∧ Hid (Below W.heap.size W w') := by
    obtain ⟨fuel, hf⟩ := h0
    rcases open_ints Ybad.underlying22 Ybad.underlying5 (by kernel_rfl) hf with ⟨hcs, _⟩ | ⟨x, l, c, zs, hcs, _, hl, hm, hz, _, hcell, _⟩
    · simp [Value.cells] at hcs
      obtain ⟨rfl, rfl, rfl⟩ := hcs
      by_cases hs : s.size ≤ 1024
      · exact model_main none 0 [] s W (by simp) hs (fun _ => ⟨rfl, rfl⟩) (fun a ha => by cases ha) hpos htab
      · exact model_long2 _ _ _ s W (by omega) (by omega) hsz
    · simp [Value.cells] at hcs
      obtain ⟨rfl, rfl, rfl⟩ := hcs
      simp only [if_true] at hz
      by_cases hn : n ≤ 1024
      · by_cases hs : s.size ≤ 1024
        · have hlen : (zs.take n).length = n := by simp; omega
          have hsrc : Src W (some x) (zs.take n) := fun a ha j v hj => by
            cases ha
            have hjn : j < n := by
              have := (List.getElem?_eq_some_iff.1 hj).1
              rw [List.length_map, hlen] at this
              exact this
            rw [hcell j (by omega)]
            rw [List.getElem?_map, List.getElem?_take_of_lt hjn, List.getElem?_eq_getElem (by omega)] at hj
            simp only [Option.map_some, Option.some.injEq] at hj
            rw [← hj]
            simp [List.getD, show j < zs.length by omega]
          have := model_main (some x) cap (zs.take n) s W (by omega) hs (fun h => by cases h) hsrc hpos htab
          rwa [hlen] at this
        · exact model_long2 _ _ _ s W hn (by omega) hsz
      · exact model_long1 _ n cap s W (by omega) (by omega)
  refine walk.mono fun e W' ⟨he, hbel⟩ => ?_
  subst he
  have bel := hbel.out
  obtain ⟨d, rfl, hv'⟩ := var_again hV bel
  exact ⟨_, rfl, _, _, _, [], _, _, hW', trodAll_mk1 (shut_bool Ybad.underlying4 _), trodAll_mk2 (Below.trod laidOut (by kernel_rfl) (of_decide_eq_true (by kernel_rfl)) k0 bel lt0) (shut_string Ybad.underlying9 hsz), hv', bel.frame _, fun h => by cases h⟩

theorem model_holds : Rows.LawS0539AModelSaid :=
  OpenClaim.holds_of_wide 3 Ybad.f3 rfl rfl rfl rfl rfl rfl rfl ⟨rfl, rfl, rfl, rfl, rfl⟩ rfl rfl rfl rfl rfl (by kernel_rfl) Ybad.func3 (by kernel_rfl)
    (of_decide_eq_true (by kernel_rfl)) (by unfold Func.isWrapper; first | (rw [if_pos (by decide +kernel)]; kernel_rfl) | (rw [if_neg (by decide +kernel)]; exact ⟨rfl, rfl⟩))
    (fun os started H enc _ => model_lifted os started H enc)

/-- THE STATEMENT. -/
theorem model_proved : Rows.LawS0539AModelCardSaid :=
  Claim7.holds_tied_plain_at .later [] [.data] true Rows.lawS0539AModelCard.stood.harness false
    model_holds (fun _ h => by cases h) (by kernel_rfl) (fun _ h => by cases h) lawS0539AModel_row_tie rfl ⟨rfl, rfl⟩ (by kernel_rfl) rfl
    (fun f fn hf hfn => by
      obtain rfl : f = 3 := Option.some.inj ((show Ybad.prog.funcNamed Rows.lawS0539AModelRow.func = some 3 by kernel_rfl).symm.trans hf) |>.symm
      obtain rfl : fn = Ybad.f3 := (Option.some.inj (Ybad.func3.symm.trans hfn)).symm
      exact ⟨by kernel_rfl, fun j t ht => by
        rw [Ybad.params3] at ht
        have hm : t ∈ [22, 9] := by simpa using Array.mem_of_getElem? ht
        have hall : ([22, 9].all fun u => !Ybad.prog.wantsStandIn u) = true := by kernel_rfl
        exact (show Ybad.prog.wantsStandIn t = false by simpa using List.all_eq_true.1 hall t hm)⟩)
    (by kernel_rfl)
end Go.Proofs.YbulkkdgDoor
