import Derived.Test.YbulkkaaCop
import Derived.ProofKit
import Derived.ShutString
import Derived.ChangeOld
import Derived.Below
import Derived.SliceStrings
import Derived.SizedLaws
namespace Go.Proofs.Ybulkkaa
open Go.ChangeShapes Go.WideShapes Go.ChangeAt Go.RowKit

theorem own : ownKnob Yba.prog.godebug = none := by kernel_rfl
theorem laidOut : laidOutB Yba.prog = true := by kernel_rfl
theorem Yba.cells9 : Yba.prog.cellsOf 9 = 1 := by kernel_rfl
theorem Yba.cells2 : Yba.prog.cellsOf 2 = 1 := by kernel_rfl

/-- WHAT THE WALK IS TOLD OF A SLICE OF STRINGS THAT CAME IN. -/
def IsNames (w : World) (a : Option Addr) (n : Nat) (nm : Nat → ByteArray) : Prop :=
  n ≤ maxLen ∧ ∃ nb no, (0 < n → a = some ⟨nb, no, none⟩) ∧ ∀ i, i < n → w.cell? ⟨nb, no + i, none⟩ = some (.string (nm i))
/-- WHAT THE WALK IS TOLD OF A SLICE OF INTEGERS THAT CAME IN. -/
def IsTimes (w : World) (a : Option Addr) (n : Nat) (tv : Nat → Int) : Prop :=
  n ≤ maxLen ∧ ∃ tb to, (0 < n → a = some ⟨tb, to, none⟩) ∧ ∀ i, i < n → w.cell? ⟨tb, to + i, none⟩ = some (.int .i64 (tv i))

theorem addr_of {w : World} {x : Addr} {n : Nat} {V : Nat → Value} (hn : 0 < n) (h : ∀ i, i < n → w.cell? (x.add i) = some (V i)) :
    ∃ b o, x = ⟨b, o, none⟩ ∧ ∀ i, i < n → w.cell? ⟨b, o + i, none⟩ = some (V i) := by
  obtain ⟨b, off, spot⟩ := x
  have hspot : spot = none := by simpa [Addr.add] using World.cell?_spot (h 0 hn)
  subst hspot
  exact ⟨b, off, rfl, fun i hi => by rw [← add_plain]; exact h i hi⟩

/-- A slice of strings, opened: its strings are within the form's reach. -/
theorem open_names {H : Type} {enc : TypeId × Value → H} {W : World} {a : Option Addr} {len cap : Nat} {d : DataW H} {p : List MemPlace}
    (h : DataW.Trod enc Yba.prog W 0 (fun _ => true) true 22 (.slice a len cap) d p) :
    ∃ nm, IsNames W a len nm ∧ (∀ {ts : List TypeId} {ds : List (DataW H)} {j : Nat}, ts[j]? = some 22 → ds[j]? = some d → (DataW.weightsEach Yba.prog ts ds).all (· ≤ reachBytes) = true → ∀ i, i < len → (nm i).size ≤ 140737488351232) := by
  obtain ⟨fuel, hf⟩ := h
  rcases open_strings Yba.underlying22 Yba.underlying9 Yba.cells9 hf with ⟨hcs, _⟩ | ⟨x, l, c, ss, hcs, _, hl, hm, hz, hx, hcell, _⟩
  · simp [Value.cells] at hcs
    obtain ⟨rfl, rfl, rfl⟩ := hcs
    exact ⟨fun _ => ByteArray.empty, ⟨Nat.zero_le _, 0, 0, fun h => absurd h (Nat.lt_irrefl _), fun i hi => absurd hi (Nat.not_lt_zero _)⟩, fun _ _ _ i hi => absurd hi (Nat.not_lt_zero _)⟩
  · simp [Value.cells] at hcs
    obtain ⟨rfl, rfl, rfl⟩ := hcs
    simp only [Prod.mk.injEq] at hx
    obtain ⟨rfl, _⟩ := hx
    simp only [if_true] at hz
    refine ⟨fun i => ss.getD i ByteArray.empty, ⟨by omega, ?_⟩, ?_⟩
    · by_cases h0 : 0 < len
      · obtain ⟨b, o, rfl, hc⟩ := addr_of h0 (fun i hi => hcell i (by omega))
        exact ⟨b, o, fun _ => rfl, hc⟩
      · exact ⟨0, 0, fun h => absurd h h0, fun i hi => by omega⟩
    · intro ts ds j ht hd hs i hi
      have hm : (ss.getD i ByteArray.empty).size ∈ DataW.weights Yba.prog 22 (DataW.slice (strs (H := H) (ss.take len)) (strs (ss.drop len))) := by
        simp only [DataW.weights, Yba.underlying22, List.mem_cons, List.mem_append]
        refine .inr (.inl ?_)
        have hmem : ss.getD i ByteArray.empty ∈ ss.take len := by
          rw [List.mem_take_iff_getElem]
          refine ⟨i, by omega, ?_⟩
          simp [List.getD, show i < ss.length by omega]
        revert hmem
        generalize ss.take len = l
        induction l with
        | nil => intro h; cases h
        | cons s r ih =>
          intro h
          simp only [strs, List.map_cons, DataW.weightsAll, DataW.weights, List.mem_append, List.mem_cons]
          rcases List.mem_cons.1 h with h | h
          · left; left; rw [h]; rfl
          · right; exact ih h
      have := List.all_eq_true.1 hs _ (DataW.weights_mem_each ht hd _ hm)
      simpa [reachBytes] using this

theorem open_times {H : Type} {enc : TypeId × Value → H} {W : World} {a : Option Addr} {len cap : Nat} {d : DataW H} {p : List MemPlace}
    (h : DataW.Trod enc Yba.prog W 0 (fun _ => true) true 23 (.slice a len cap) d p) : ∃ tv, IsTimes W a len tv := by
  obtain ⟨fuel, hf⟩ := h
  rcases open_ints Yba.underlying23 Yba.underlying2 Yba.cells2 hf with ⟨hcs, _⟩ | ⟨x, l, c, zs, hcs, _, hl, hm, hz, _, hcell, _⟩
  · simp [Value.cells] at hcs
    obtain ⟨rfl, rfl, rfl⟩ := hcs
    exact ⟨fun _ => 0, Nat.zero_le _, 0, 0, fun h => absurd h (Nat.lt_irrefl _), fun i hi => absurd hi (Nat.not_lt_zero _)⟩
  · simp [Value.cells] at hcs
    obtain ⟨rfl, rfl, rfl⟩ := hcs
    simp only [if_true] at hz
    refine ⟨fun i => zs.getD i 0, by omega, ?_⟩
    by_cases h0 : 0 < len
    · obtain ⟨b, o, rfl, hc⟩ := addr_of h0 (fun i hi => hcell i (by omega))
      exact ⟨b, o, fun _ => rfl, hc⟩
    · exact ⟨0, 0, fun h => absurd h h0, fun i hi => by omega⟩

set_option maxHeartbeats 400000 in
theorem copies_walk (a0 : Option Addr) (n c0 : Nat) (a1 : Option Addr) (m c1 : Nat) (nm : Nat → ByteArray) (tv : Nat → Int) (w : World) (h0 : IsNames w a0 n nm) (h1 : IsTimes w a1 m tv) :
    Calls Yba.prog 3 #[.slice a0 n c0, .slice a1 m c1] w fun e w' => e = .returned (.bool true) ∧ Below w.heap.size w w' := by
  obtain ⟨hn, nb, no, ha0, hc0⟩ := h0
  obtain ⟨hm, tb, to, ha1, hc1⟩ := h1
  by_cases hn1 : n ≤ 1024
  · by_cases hm1 : m ≤ 1024
    · exact copies_main a0 nb no n c0 a1 tb to m c1 nm tv w hn1 hm1 ha0 ha1 hc0 hc1
    · clear ha0 hc0 ha1 hc1
      unfold maxLen at hn hm
      have x1 : ¬ (1024 : Int) < (n : Int) := by omega
      have x2 : (1024 : Int) < (m : Int) := by omega
      go_enter Yba.func3, Yba.ntmps3
      go_wp2
      go_ret
      exact ⟨rfl, Below.refl _ _⟩
  · clear ha0 hc0 ha1 hc1
    unfold maxLen at hn hm
    have x1 : (1024 : Int) < (n : Int) := by omega
    go_enter Yba.func3, Yba.ntmps3
    go_wp2
    go_ret
    exact ⟨rfl, Below.refl _ _⟩

set_option maxRecDepth 100000 in
theorem copies_lifted (os : Os) (started : os.Started) (H : Type) (enc : TypeId × Value → H) :
    ReturnsInHanded {} Yba.checked os 3 .any (Rows.lawS0533CCopiesSpec.pre6 enc Yba.prog Yba.f3 Rows.lawS0533CCopiesRow.domain false) (Rows.lawS0533CCopiesSpec.post enc Yba.prog Yba.f3 false true false false) := by
  refine returnsInHanded_of_change (C := Yba.checked) own started (by kernel_rfl) Yba.func3
    (ChangeSpec.witness6 (enc := enc) (C := Yba.checked) false ⟨#[], #[.slice none 0 0, .slice none 0 0], []⟩ 8 (by kernel_rfl) (by kernel_rfl) (by kernel_rfl) (by kernel_rfl)) ?_
  intro W base args ds gs before hval0 hW hcnd _
  have hval : ∀ (j : Nat) t v, Yba.f3.params[j]? = some t → args[j]? = some v → Value.okWide Yba.prog W .any base t v := hval0
  have hW' := hW
  obtain ⟨p, q, hA0, hV, rfl, hfz, hnd⟩ := hW
  have hA : DataW.TrodAll enc Yba.prog W 0 (fun _ => true) true Yba.f3.params.toList args.toList ds p := hA0
  rw [Yba.params3] at hA hval
  obtain ⟨v0, v1, d0, d1, p0, p1, rfl, rfl, rfl, h0, h1⟩ := trodAll_two hA
  obtain ⟨rfl, rfl⟩ := trodVars_none hV
  obtain ⟨a0, n, c0, rfl⟩ := okWide_slice Yba.underlying22 (hval 0 22 v0 rfl rfl)
  obtain ⟨a1, m, c1, rfl⟩ := okWide_slice Yba.underlying23 (hval 1 23 v1 rfl rfl)
  have k0 := h0
  have k1 := h1
  have lt0 : ∀ x ∈ p0, x.block < W.heap.size := by obtain ⟨m, hm⟩ := k0; exact DataW.trod_lt m _ _ _ hm
  have lt1 : ∀ x ∈ p1, x.block < W.heap.size := by obtain ⟨m, hm⟩ := k1; exact DataW.trod_lt m _ _ _ hm
  obtain ⟨nm, hnm, _⟩ := open_names h0
  obtain ⟨tv, htv⟩ := open_times h1
  clear hA0 hval0
  refine (copies_walk a0 n c0 a1 m c1 nm tv W hnm htv).mono fun e W' ⟨he, bel⟩ => ?_
  subst he
  exact ⟨_, rfl, _, _, _, [], _, [], hW', trodAll_mk1 (shut_bool Yba.underlying4 _), trodAll_mk2 (Below.trod laidOut (by kernel_rfl) (of_decide_eq_true (by kernel_rfl)) k0 bel lt0) (Below.trod laidOut (by kernel_rfl) (of_decide_eq_true (by kernel_rfl)) k1 bel lt1), rfl, bel.frame _, fun h => by cases h⟩

/-- THE STATEMENT. -/
theorem copies_proved : Rows.LawS0533CCopiesSaid :=
  OpenClaim.holds_of_wide 3 Yba.f3 rfl rfl rfl rfl rfl rfl rfl ⟨rfl, rfl, rfl, rfl, rfl⟩ rfl rfl rfl rfl rfl (by kernel_rfl) Yba.func3 (by kernel_rfl)
    (of_decide_eq_true (by kernel_rfl)) (by unfold Func.isWrapper; first | (rw [if_pos (by decide +kernel)]; kernel_rfl) | (rw [if_neg (by decide +kernel)]; exact ⟨rfl, rfl⟩))
    (fun os started H enc _ => copies_lifted os started H enc)
end Go.Proofs.Ybulkkaa
