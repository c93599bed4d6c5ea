import Derived.Test.YbulkkewE
import Derived.ProofKit
import Derived.ShutString
import Derived.ChangeOld
import Derived.Below
import Derived.SliceStrings
import Derived.SizedLaws
namespace Go.Proofs.Ybulkkew
open Go.ChangeShapes Go.WideShapes Go.ChangeAt Go.RowKit

theorem own : ownKnob Yba.prog.godebug = none := by kernel_rfl
theorem laidOut : laidOutB Yba.prog = true := by kernel_rfl
theorem Yba.cells9 : Yba.prog.cellsOf 9 = 1 := by kernel_rfl
theorem Yba.cells5 : Yba.prog.cellsOf 5 = 1 := by kernel_rfl

/-- What the walk is told of a slice of strings that came in. -/
def IsNames (w : World) (a : Option Addr) (n : Nat) (nm : Nat → ByteArray) : Prop :=
  n ≤ maxLen ∧ ∃ nb no, (0 < n → a = some ⟨nb, no, none⟩) ∧ ∀ i, i < n → w.cell? ⟨nb, no + i, none⟩ = some (.string (nm i))
/-- What the walk is told of a slice of bytes that came in. -/
def IsBytes (w : World) (a : Option Addr) (n : Nat) (ov : Nat → Int) : Prop :=
  n ≤ maxLen ∧ ∃ ob oo, (0 < n → a = some ⟨ob, oo, none⟩) ∧ (∀ i, i < n → w.cell? ⟨ob, oo + i, none⟩ = some (.int .u8 (ov i))) ∧ ∀ i, i < n → 0 ≤ ov i ∧ ov i ≤ 255

theorem addr_of {w : World} {x : Addr} {n : Nat} {V : Nat → Value} (hn : 0 < n) (h : ∀ i, i < n → w.cell? (x.add i) = some (V i)) :
    ∃ b o, x = ⟨b, o, none⟩ ∧ ∀ i, i < n → w.cell? ⟨b, o + i, none⟩ = some (V i) := by
  obtain ⟨b, off, spot⟩ := x
  have hspot : spot = none := by simpa [Addr.add] using World.cell?_spot (h 0 hn)
  subst hspot
  exact ⟨b, off, rfl, fun i hi => by rw [← add_plain]; exact h i hi⟩

/-- A slice of strings, opened: its strings are within the form's reach. -/
theorem open_names {H : Type} {enc : TypeId × Value → H} {W : World} {a : Option Addr} {len cap : Nat} {d : DataW H} {p : List MemPlace}
    (h : DataW.Trod enc Yba.prog W 0 (fun _ => true) true 22 (.slice a len cap) d p) :
    ∃ nm, IsNames W a len nm ∧ (∀ {ts : List TypeId} {ds : List (DataW H)} {j : Nat}, ts[j]? = some 22 → ds[j]? = some d → (DataW.weightsEach Yba.prog ts ds).all (· ≤ reachBytes) = true → ∀ i, i < len → (nm i).size ≤ 140737488351232) := by
  obtain ⟨fuel, hf⟩ := h
  rcases open_strings Yba.underlying22 Yba.underlying9 Yba.cells9 hf with ⟨hcs, _⟩ | ⟨x, l, c, ss, hcs, _, hl, hm, hz, hx, hcell, _⟩
  · simp [Value.cells] at hcs
    obtain ⟨rfl, rfl, rfl⟩ := hcs
    exact ⟨fun _ => ByteArray.empty, ⟨Nat.zero_le _, 0, 0, fun h => absurd h (Nat.lt_irrefl _), fun i hi => absurd hi (Nat.not_lt_zero _)⟩, fun _ _ _ i hi => absurd hi (Nat.not_lt_zero _)⟩
  · simp [Value.cells] at hcs
    obtain ⟨rfl, rfl, rfl⟩ := hcs
    simp only [Prod.mk.injEq] at hx
    obtain ⟨rfl, _⟩ := hx
    simp only [if_true] at hz
    refine ⟨fun i => ss.getD i ByteArray.empty, ⟨by omega, ?_⟩, ?_⟩
    · by_cases h0 : 0 < len
      · obtain ⟨b, o, rfl, hc⟩ := addr_of h0 (fun i hi => hcell i (by omega))
        exact ⟨b, o, fun _ => rfl, hc⟩
      · exact ⟨0, 0, fun h => absurd h h0, fun i hi => by omega⟩
    · intro ts ds j ht hd hs i hi
      have hm : (ss.getD i ByteArray.empty).size ∈ DataW.weights Yba.prog 22 (DataW.slice (strs (H := H) (ss.take len)) (strs (ss.drop len))) := by
        simp only [DataW.weights, Yba.underlying22, List.mem_cons, List.mem_append]
        refine .inr (.inl ?_)
        have hmem : ss.getD i ByteArray.empty ∈ ss.take len := by
          rw [List.mem_take_iff_getElem]
          refine ⟨i, by omega, ?_⟩
          simp [List.getD, show i < ss.length by omega]
        revert hmem
        generalize ss.take len = l
        induction l with
        | nil => intro h; cases h
        | cons s r ih =>
          intro h
          simp only [strs, List.map_cons, DataW.weightsAll, DataW.weights, List.mem_append, List.mem_cons]
          rcases List.mem_cons.1 h with h | h
          · left; left; rw [h]; rfl
          · right; exact ih h
      have := List.all_eq_true.1 hs _ (DataW.weights_mem_each ht hd _ hm)
      simpa [reachBytes] using this

theorem wf_u8 {z : Int} (h : (Lit.int .u8 z).wf = true) : 0 ≤ z ∧ z ≤ 255 := by
  have e1 : IntKind.u8.min = 0 := by decide
  have e2 : IntKind.u8.max = 255 := by decide
  simpa [Lit.wf, e1, e2] using h

theorem open_bytes {H : Type} {enc : TypeId × Value → H} {W : World} {a : Option Addr} {len cap : Nat} {d : DataW H} {p : List MemPlace}
    (h : DataW.Trod enc Yba.prog W 0 (fun _ => true) true 23 (.slice a len cap) d p) : ∃ ov, IsBytes W a len ov := by
  obtain ⟨fuel, hf⟩ := h
  rcases open_ints Yba.underlying23 Yba.underlying5 Yba.cells5 hf with ⟨hcs, _⟩ | ⟨x, l, c, zs, hcs, _, hl, hm, hz, _, hcell, hwf⟩
  · simp [Value.cells] at hcs
    obtain ⟨rfl, rfl, rfl⟩ := hcs
    exact ⟨fun _ => 0, Nat.zero_le _, 0, 0, fun h => absurd h (Nat.lt_irrefl _), fun i hi => absurd hi (Nat.not_lt_zero _), fun i hi => absurd hi (Nat.not_lt_zero _)⟩
  · simp [Value.cells] at hcs
    obtain ⟨rfl, rfl, rfl⟩ := hcs
    simp only [if_true] at hz
    have hrange : ∀ i, i < len → 0 ≤ zs.getD i 0 ∧ zs.getD i 0 ≤ 255 := fun i hi => by
      refine wf_u8 (hwf _ ?_)
      simp only [List.getD, List.getElem?_eq_getElem (show i < zs.length by omega)]
      exact List.getElem_mem _
    refine ⟨fun i => zs.getD i 0, by omega, ?_⟩
    by_cases h0 : 0 < len
    · obtain ⟨b, o, rfl, hc⟩ := addr_of h0 (fun i hi => hcell i (by omega))
      exact ⟨b, o, fun _ => rfl, hc, hrange⟩
    · exact ⟨0, 0, fun h => absurd h h0, fun i hi => by omega, hrange⟩

set_option maxRecDepth 100000 in
set_option maxHeartbeats 1000000 in
theorem first_walk (a0 : Option Addr) (n c0 : Nat) (a1 : Option Addr) (m c1 : Nat) (nm : Nat → ByteArray) (ov : Nat → Int) (w : World) (h0 : IsNames w a0 n nm) (h1 : IsBytes w a1 m ov) (hz : ∀ i, i < n → (nm i).size ≤ 140737488351232) :
    Calls Yba.prog 3 #[.slice a0 n c0, .slice a1 m c1] w fun e w' => e = .returned (.bool true) ∧ Hid (Below w.heap.size w w') := by
  obtain ⟨hn, nb, no, ha0, hc0⟩ := h0
  obtain ⟨hm, ob, oo, ha1, hc1, hv⟩ := h1
  by_cases hm1 : m ≤ 1024
  · by_cases hn1 : n ≤ 1024
    · exact first_main a0 nb no n c0 a1 ob oo m c1 nm ov w hn1 hm1 ha0 ha1 hc0 hc1 hz hv
    · clear ha0 hc0 ha1 hc1 hz hv
      unfold maxLen at hn hm
      have x1 : ¬ (1024 : Int) < (m : Int) := by omega
      have x2 : (1024 : Int) < (n : Int) := by omega
      go_enter Yba.func3, Yba.ntmps3
      go_wp2
      go_ret
      exact ⟨rfl, Below.refl _ _⟩
  · clear ha0 hc0 ha1 hc1 hz hv
    unfold maxLen at hn hm
    have x1 : (1024 : Int) < (m : Int) := by omega
    go_enter Yba.func3, Yba.ntmps3
    go_wp2
    go_ret
    exact ⟨rfl, Below.refl _ _⟩

set_option maxRecDepth 100000 in
theorem first_lifted (os : Os) (started : os.Started) (H : Type) (enc : TypeId × Value → H) :
    ReturnsInHanded {} Yba.checked os 3 .any (Rows.lawS0542CFirstMetSpec.pre6 enc Yba.prog Yba.f3 Rows.lawS0542CFirstMetRow.domain false) (Rows.lawS0542CFirstMetSpec.post enc Yba.prog Yba.f3 false true false false) := by
  refine returnsInHanded_of_change_sized (C := Yba.checked) own started (by kernel_rfl) Yba.func3
    (ChangeSpec.witness6 (enc := enc) (C := Yba.checked) false ⟨#[], #[.slice none 0 0, .slice none 0 0], []⟩ 8 (by kernel_rfl) (by kernel_rfl) (by kernel_rfl) (by kernel_rfl)) ?_
  intro W base args ds gs before hval0 hW hcnd hsz0 _
  have hsz : (DataW.weightsEach Yba.prog (Yba.f3.params.toList ++ Rows.lawS0542CFirstMetSpec.plain.varTypes Yba.prog) (ds ++ gs)).all (· ≤ reachBytes) = true := hsz0
  have hval : ∀ (j : Nat) t v, Yba.f3.params[j]? = some t → args[j]? = some v → Value.okWide Yba.prog W .any base t v := hval0
  have hW' := hW
  obtain ⟨p, q, hA0, hV, rfl, hfz, hnd⟩ := hW
  have hA : DataW.TrodAll enc Yba.prog W 0 (fun _ => true) true Yba.f3.params.toList args.toList ds p := hA0
  rw [Yba.params3] at hA hval hsz
  obtain ⟨v0, v1, d0, d1, p0, p1, rfl, rfl, rfl, h0, h1⟩ := trodAll_two hA
  obtain ⟨rfl, rfl⟩ := trodVars_none hV
  obtain ⟨a0, n, c0, rfl⟩ := okWide_slice Yba.underlying22 (hval 0 22 v0 rfl rfl)
  obtain ⟨a1, m, c1, rfl⟩ := okWide_slice Yba.underlying23 (hval 1 23 v1 rfl rfl)
  have k0 := h0
  have k1 := h1
  have lt0 : ∀ x ∈ p0, x.block < W.heap.size := by obtain ⟨m, hm⟩ := k0; exact DataW.trod_lt m _ _ _ hm
  have lt1 : ∀ x ∈ p1, x.block < W.heap.size := by obtain ⟨m, hm⟩ := k1; exact DataW.trod_lt m _ _ _ hm
  obtain ⟨nm, hnm, hnz⟩ := open_names h0
  obtain ⟨ov, hov⟩ := open_bytes h1
  have hz := hnz (j := 0) rfl rfl hsz
  clear hA0 hval0 hnz
  refine (first_walk a0 n c0 a1 m c1 nm ov W hnm hov hz).mono fun e W' ⟨he, hbel⟩ => ?_
  subst he
  have bel := hbel.out
  exact ⟨_, rfl, _, _, _, [], _, [], hW', trodAll_mk1 (shut_bool Yba.underlying4 _), trodAll_mk2 (Below.trod laidOut (by kernel_rfl) (of_decide_eq_true (by kernel_rfl)) k0 bel lt0) (Below.trod laidOut (by kernel_rfl) (of_decide_eq_true (by kernel_rfl)) k1 bel lt1), rfl, bel.frame _, fun h => by cases h⟩

/-- THE STATEMENT. -/
theorem first_proved : Rows.LawS0542CFirstMetSaid :=
  OpenClaim.holds_of_wide 3 Yba.f3 rfl rfl rfl rfl rfl rfl rfl ⟨rfl, rfl, rfl, rfl, rfl⟩ rfl rfl rfl rfl rfl (by kernel_rfl) Yba.func3 (by kernel_rfl)
    (of_decide_eq_true (by kernel_rfl)) (by unfold Func.isWrapper; first | (rw [if_pos (by decide +kernel)]; kernel_rfl) | (rw [if_neg (by decide +kernel)]; exact ⟨rfl, rfl⟩))
    (fun os started H enc _ => first_lifted os started H enc)
end Go.Proofs.Ybulkkew
