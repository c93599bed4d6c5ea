import Derived.Test.YbulkkaaCopProof
import Derived.Test.YbulkkaaFre
namespace Go.Proofs.Ybulkkaa
open Go.ChangeShapes Go.WideShapes Go.ChangeAt Go.RowKit

set_option maxHeartbeats 400000 in
theorem fresh_walk (a0 : Option Addr) (n c0 : Nat) (nm : Nat → ByteArray) (w : World) (h0 : IsNames w a0 n nm) (hb : ∀ i, i < n → (nm i).size ≤ 140737488351232) :
    Calls Yba.prog 4 #[.slice a0 n c0] w fun e w' => e = .returned (.bool true) ∧ Below w.heap.size w w' := by
  obtain ⟨hn, nb, no, ha0, hc0⟩ := h0
  by_cases hn1 : n ≤ 1024
  · exact fresh_main a0 nb no n c0 nm w hn1 ha0 hc0 hb
  · clear ha0 hc0 hb
    unfold maxLen at hn
    have x1 : (1024 : Int) < (n : Int) := by omega
    go_enter Yba.func4, Yba.ntmps4
    go_wp2
    go_ret
    exact ⟨rfl, Below.refl _ _⟩

set_option maxRecDepth 100000 in
theorem fresh_lifted (os : Os) (started : os.Started) (H : Type) (enc : TypeId × Value → H) :
    ReturnsInHanded {} Yba.checked os 4 .any (Rows.lawS0533CFreshSliceSpec.pre6 enc Yba.prog Yba.f4 Rows.lawS0533CFreshSliceRow.domain false) (Rows.lawS0533CFreshSliceSpec.post enc Yba.prog Yba.f4 false true false false) := by
  refine returnsInHanded_of_change_sized (C := Yba.checked) own started (by kernel_rfl) Yba.func4
    (ChangeSpec.witness6 (enc := enc) (C := Yba.checked) false ⟨#[], #[.slice none 0 0], []⟩ 8 (by kernel_rfl) (by kernel_rfl) (by kernel_rfl) (by kernel_rfl)) ?_
  intro W base args ds gs before hval0 hW hcnd hsz0 _
  have hval : ∀ (j : Nat) t v, Yba.f4.params[j]? = some t → args[j]? = some v → Value.okWide Yba.prog W .any base t v := hval0
  have hsz : (DataW.weightsEach Yba.prog (Yba.f4.params.toList ++ Rows.lawS0533CFreshSliceSpec.plain.varTypes Yba.prog) (ds ++ gs)).all (· ≤ reachBytes) = true := hsz0
  have hW' := hW
  obtain ⟨p, q, hA0, hV, rfl, hfz, hnd⟩ := hW
  have hA : DataW.TrodAll enc Yba.prog W 0 (fun _ => true) true Yba.f4.params.toList args.toList ds p := hA0
  rw [Yba.params4] at hA hval hsz
  obtain ⟨v0, d0, rfl, rfl, h0⟩ := trodAll_one hA
  obtain ⟨rfl, rfl⟩ := trodVars_none hV
  obtain ⟨a0, n, c0, rfl⟩ := okWide_slice Yba.underlying22 (hval 0 22 v0 rfl rfl)
  have k0 := h0
  have lt0 : ∀ x ∈ p, x.block < W.heap.size := by obtain ⟨m, hm⟩ := k0; exact DataW.trod_lt m _ _ _ hm
  obtain ⟨nm, hnm, hb⟩ := open_names h0
  have hb' := hb (j := 0) rfl rfl hsz
  clear hA0 hval0
  refine (fresh_walk a0 n c0 nm W hnm hb').mono fun e W' ⟨he, bel⟩ => ?_
  subst he
  exact ⟨_, rfl, _, _, _, [], _, [], hW', trodAll_mk1 (shut_bool Yba.underlying4 _), trodAll_mk1 (Below.trod laidOut (by kernel_rfl) (of_decide_eq_true (by kernel_rfl)) k0 bel lt0), rfl, bel.frame _, fun h => by cases h⟩

/-- THE STATEMENT. -/
theorem fresh_proved : Rows.LawS0533CFreshSliceSaid :=
  OpenClaim.holds_of_wide 4 Yba.f4 rfl rfl rfl rfl rfl rfl rfl ⟨rfl, rfl, rfl, rfl, rfl⟩ rfl rfl rfl rfl rfl (by kernel_rfl) Yba.func4 (by kernel_rfl)
    (of_decide_eq_true (by kernel_rfl)) (by unfold Func.isWrapper; first | (rw [if_pos (by decide +kernel)]; kernel_rfl) | (rw [if_neg (by decide +kernel)]; exact ⟨rfl, rfl⟩))
    (fun os started H enc _ => fresh_lifted os started H enc)
end Go.Proofs.Ybulkkaa
