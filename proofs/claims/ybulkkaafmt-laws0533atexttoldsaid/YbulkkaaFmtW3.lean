import Derived.Test.YbulkkaaFmtW2
namespace Go.Proofs.YbulkkaaFmt
open Go.RowKit

set_option maxHeartbeats 400000 in
theorem marshal_known (i : Nat) (w : World) (hi : i < 10) (htab : TabIs w) :
    Calls Ybaf.prog 9 #[.int .i64 i] w fun e w' => ∃ c, e = .returned (.tuple #[.slice (some ⟨w.heap.size, 0, none⟩) (nmB i).size c, .nilIface]) ∧ w' = Lib.bytesWorld w 5 (nmB i) := by
  have hcv := fun (W : World) (s : ByteArray) => Lib.run_convert_string_bytes (P := Ybaf.prog) W 9 28 5 s Ybaf.underlying9 Ybaf.underlying28 Ybaf.underlying5
  have c0 := (htab.2 i hi).1
  have i0 : (0 : Int) ≤ (i : Int) := Int.natCast_nonneg _
  have i1 : (i : Int) < 10 := by omega
  clear htab
  go_enter Ybaf.func9, Ybaf.ntmps9
  go_wp2
  go_ret2
  exact ⟨_, rfl, rfl⟩

/-- UnmarshalText behind MarshalText. -/
theorem unm_at2 (w : World) (start : Int) (i : Nat) (hi : i < 10) (htab : TabIs w) (c : Nat) (W : World) (hW : W = Lib.bytesWorld w 5 (nmB i)) :
    Calls Ybaf.prog 7 #[.pointer (some ⟨W.heap.size, 0, none⟩), .slice (some ⟨w.heap.size, 0, none⟩) (nmB i).size c] (W.alloc (.cells #[.int .i64 start] 24))
      fun e w' => ∃ w1, e = .returned .nilIface ∧ w' = w1.setCell ⟨W.heap.size, 0, none⟩ (.int .i64 i) ∧ Below w.heap.size w w1 ∧ w1.cell? ⟨W.heap.size, 0, none⟩ = some (.int .i64 start) ∧ w.heap.size ≤ W.heap.size := by
  have ht := text_of_bytes w (nmB i) c
  rw [← hW] at ht
  have hb : Below w.heap.size w W := by rw [hW]; exact bytes_below w (nmB i) _ (Nat.le_refl _)
  have hb2 : Below W.heap.size W (W.alloc (.cells #[.int .i64 start] 24)) := (Below.refl _ _).alloc (Nat.le_refl _) _
  have h1 : Below w.heap.size w (W.alloc (.cells #[.int .i64 start] 24)) := hb.trans (hb2.mono hb.size)
  have h2 : (W.alloc (.cells #[.int .i64 start] 24)).cell? ⟨W.heap.size, 0, none⟩ = some (.int .i64 start) := by rw [World.cell?_alloc_new]; rfl
  have h3 : (W.alloc (.cells #[.int .i64 start] 24)).frozen? ⟨W.heap.size, 0, none⟩ = false := World.frozen?_alloc_new _ _ _ _
  refine (unm_found W.heap.size start _ (nmB i).size c i _ hi (htab.later h1) (ht.later hb2) h2 h3).mono ?_
  rintro e w2 ⟨rfl, w1, hx, rfl⟩
  exact ⟨w1, rfl, rfl, h1.trans (hx.mono h1.size), (hx.cell (p := ⟨W.heap.size, 0, none⟩) (World.block_lt_of_cell? _ _ h2)).trans h2, hb.size⟩

set_option maxHeartbeats 400000 in
theorem round_walk (sel start : Int) (w : World) (h0 : 0 ≤ sel) (h1 : sel ≤ 255) (htab : TabIs w) :
    Calls Ybaf.prog 5 #[.int .u8 sel, .int .i64 start] w fun e w' => e = .returned (.bool true) ∧ Below w.heap.size w w' := by
  obtain ⟨i, hi, he⟩ : ∃ i : Nat, i < 10 ∧ sel % 10 = (i : Int) := ⟨(sel % 10).toNat, by omega, by omega⟩
  have HTB := hide htab
  clear htab
  go_enter Ybaf.func5, Ybaf.ntmps5
  go_wp2_with fail
  rw [he]
  refine (marshal_known i w hi HTB.out).mono ?_
  rintro e w1 ⟨c, rfl, hw1⟩
  have HW := hide hw1
  clear hw1
  go_wp2_with fail
  refine (unm_at2 w start i hi HTB.out _ w1 HW.out).mono ?_
  rintro e w2 ⟨w3, rfl, rfl, hb, cf, hz⟩
  have HBB := hide hb
  clear hb
  go_wp2
  go_ret
  exact ⟨by simp, HBB.out.setCell (by simpa using hz) _⟩
end Go.Proofs.YbulkkaaFmt
