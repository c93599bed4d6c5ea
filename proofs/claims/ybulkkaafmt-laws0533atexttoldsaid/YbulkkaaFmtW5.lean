import Derived.Test.YbulkkaaFmtW4
import Derived.Laws.CopyOwn
namespace Go.Proofs.YbulkkaaFmt
open Go.RowKit Go.Extern.Stop Go.Stop Go.Extern

theorem add_block (a : Addr) (j : Nat) : (a.add j).block = a.block := by unfold Addr.add; split <;> rfl

/-- The text that came in, or its copy. -/
def Src (w : World) (ta : Option Addr) (xs : List Int) : Prop := (ta = none → xs = []) ∧ ∀ a, ta = some a → ∀ j v, (xs.map (Value.int .u8))[j]? = some v → w.cell? (a.add j) = some v

theorem Src.later {w W : World} {ta : Option Addr} {xs : List Int} (h : Src w ta xs) (hb : Below w.heap.size w W) : Src W ta xs :=
  ⟨h.1, fun a ha j v hj => (hb.cell (World.block_lt_of_cell? w _ (h.2 a ha j v hj))).trans (h.2 a ha j v hj)⟩

theorem conv_src {w : World} {ta : Option Addr} {xs : List Int} (h : Src w ta xs) (cap : Nat) : TextIs w ta xs.length cap (strOfNums xs) := by
  intro W hW
  have h' := h.later hW
  cases ta with
  | none =>
    have hx := h.1 rfl
    subst hx
    exact run_convert_bytes_nil W 28 5 Ybaf.underlying28 Ybaf.underlying5 0 cap 9 Ybaf.underlying9
  | some a =>
    have hl := run_loadCells_list (P := Ybaf.prog) W a (xs.map (Value.int .u8)) (h'.2 a rfl)
    rw [List.length_map] at hl
    rw [run_convert_bytes_string W 28 9 5 (some a) xs.length cap Ybaf.underlying28 Ybaf.underlying5 Ybaf.underlying9, run_bytesToString W a xs.length cap xs hl, foldl_push_bytes]
    simp [strOfNums, ByteArray.empty, ByteArray.emptyWithCapacity]
    rfl

theorem op_src {w : World} {ta : Option Addr} {xs : List Int} (h : Src w ta xs) (cap : Nat) (W : World) (hb : Below w.heap.size w W) :
    ∃ s v, (FmtStop.operand "fmt.errorf" true 113 false (.iface 28 (.slice ta xs.length cap))).run Ybaf.prog W = .ok (s, v) W :=
  op_bytes ta cap xs W (h.later hb).2

theorem make28 (n : Nat) (hn : n ≤ 4096) (w : World) :
    (Instr.makeSlice 28 (.int .i64 (n : Int)) (.int .i64 (n : Int))).run Ybaf.prog w = .ok (.slice (some ⟨w.heap.size, 0, none⟩) n n) (w.alloc (.cells (madeCells #[.int .u8 0] n) 5)) := by
  have hinfo : (Ybaf.prog.info? 5).map (fun i => (i.zero, i.size, i.bytes)) = some (some (.int .u8 0), 1, 1) := by kernel_rfl
  obtain ⟨i, hi, hz, hs, hb⟩ := info_parts hinfo
  have hr := run_make (P := Ybaf.prog) w 28 5 i _ Ybaf.underlying28 hi hz .i64 .i64 n n (by omega) (Int.le_refl _) (by rw [hb]; omega) (by omega)
  simp only [Int.toNat_natCast, hs, Nat.mul_one] at hr
  exact hr

/-- Behind the copy the row is the text. -/
theorem src_copy {W : World} {g : Nat} {xs : List Int} (h : W.heap[g]? = some (.cells (splice (madeCells #[.int .u8 0] xs.length).toList 0 (xs.map (Value.int .u8))).toArray 5 (0, 0))) : Src W (some ⟨g, 0, none⟩) xs := by
  have e : splice (madeCells #[.int .u8 0] xs.length).toList 0 (xs.map (Value.int .u8)) = xs.map (Value.int .u8) := by
    unfold splice
    rw [List.drop_of_length_le (by simp [size_madeCells])]
    simp
  rw [e] at h
  refine ⟨fun h => (by cases h), fun a ha j v hj => ?_⟩
  cases ha
  rw [Addr.add_lit]
  simp only [Nat.zero_add, World.cell?, h]
  simpa using hj

set_option maxHeartbeats 1000000 in
theorem text_main (F : Interp) (o : Nat → Int) (a : Addr) (xs : List Int) (cap : Nat) (start : Int) (w : World) (hF : F.answers w.tape) (htab : TabBlk o w) (hn : xs.length ≤ 4096) (hsrc : Src w (some a) xs) :
    Calls Ybaf.prog 4 #[.slice (some a) xs.length cap, .int .i64 start] w fun e w' => e = .returned (.bool true) ∧ Below w.heap.size w w' := by
  have hmk := make28 xs.length hn
  have hnil := fun (W : World) (a : Option Addr) (l c : Nat) => Lib.run_eql_slice_nil (P := Ybaf.prog) W 28 5 a l c 0 0 Ybaf.underlying28
  have HSR := hide hsrc
  have HTB := hide htab
  have HF := hide hF
  have hnn : ¬ (4096 : Int) < (xs.length : Int) := by omega
  have hb1 : Below w.heap.size w (w.alloc (.cells (madeCells #[.int .u8 0] xs.length).toList.toArray 5)) := (Below.refl _ _).alloc (Nat.le_refl _) _
  have hcp : ∀ j v, (xs.map (Value.int .u8))[j]? = some v → (w.alloc (.cells (madeCells #[.int .u8 0] xs.length) 5)).cell? (a.add j) = some v := (hsrc.later ((Below.refl _ _).alloc (Nat.le_refl _) _)).2 a rfl
  have HCP := hide hcp
  clear hsrc htab hF hcp hb1
  go_enter Ybaf.func4, Ybaf.ntmps4
  go_wp2_with (refine wpList_copy_splice rfl (.tmp 15) (.tmp 16) 28 28 rfl 5 Ybaf.underlying28 (by kernel_rfl) (some ⟨w.heap.size, 0, none⟩) (some a) xs.length xs.length xs.length cap rfl rfl w.heap.size 0 (madeCells #[.int .u8 0] xs.length).toList 5 (by simpa using heap_alloc_new w _) (xs.map (Value.int .u8)) (by simp) (fun _ => ⟨rfl, a, rfl, HCP.out⟩) (by simp [size_madeCells]) (ints_oneCell _ _) w.heap.size w ((Below.refl _ _).alloc (Nat.le_refl _) _) (Nat.le_refl _) ?_; intro w2 hg2 hb2)
  have hs2 := src_copy hg2.out
  have l2 : w.heap.size < w2.heap.size := lt_of_block hg2.out
  have hb3 : Below w2.heap.size w2 (w2.alloc (.cells #[.int .i64 start] 24)) := (Below.refl _ _).alloc (Nat.le_refl _) _
  have hbw : Below w.heap.size w (w2.alloc (.cells #[.int .i64 start] 24)) := hb2.alloc (Nat.le_of_lt l2) _
  have hc3 : (w2.alloc (.cells #[.int .i64 start] 24)).cell? ⟨w2.heap.size, 0, none⟩ = some (.int .i64 start) := by rw [World.cell?_alloc_new]; rfl
  have hz3 : (w2.alloc (.cells #[.int .i64 start] 24)).frozen? ⟨w2.heap.size, 0, none⟩ = false := World.frozen?_alloc_new _ _ _ _
  have ht3 := (conv_src hs2 xs.length).later hb3
  by_cases hfound : ∃ i, i < 10 ∧ nmB i = strOfNums xs
  · obtain ⟨i, hi, hit⟩ := hfound
    rw [← hit] at ht3
    refine (unm_found w2.heap.size start _ xs.length xs.length i _ hi (HTB.out.later hbw).tab ht3 hc3 hz3).mono ?_
    rintro e w3 ⟨rfl, w4, hb4, rfl⟩
    have hb5 : Below w.heap.size w (w4.setCell ⟨w2.heap.size, 0, none⟩ (.int .i64 i)) := (hbw.trans (hb4.mono hbw.size)).setCell (Nat.le_of_lt l2) _
    have hcv := conv_src HSR.out cap _ hb5
    have c4 : w4.cell? ⟨w2.heap.size, 0, none⟩ = some (.int .i64 start) := (hb4.cell (p := ⟨w2.heap.size, 0, none⟩) (World.block_lt_of_cell? _ _ hc3)).trans hc3
    have c5 : (w4.setCell ⟨w2.heap.size, 0, none⟩ (.int .i64 i)).cell? ⟨w2.heap.size, 0, none⟩ = some (.int .i64 i) := World.cell?_setCell_same _ _ _ c4
    obtain ⟨w6, hw6⟩ : ∃ w6, w6 = w4.setCell ⟨w2.heap.size, 0, none⟩ (.int .i64 i) := ⟨_, rfl⟩
    rw [← hw6] at hb5 hcv c5 ⊢
    have l6 := World.block_lt_of_cell? w6 _ c5
    have HB5 := hide hb5
    have HC5 := hide c5
    have HIT := hide hit
    clear hw6 hb4 hb5 c4 c5 hc3 hz3 hs2 hb3 hbw ht3 hb2 hg2 hit
    go_wp2_with fail
    refine (aindex_any (strOfNums xs) w6).mono ?_
    rintro e w7 ⟨r, rfl, hb7, hr⟩
    have hri : r = (i : Int) := by
      rcases hr with ⟨j, hj, rfl, hji⟩ | ⟨_, hno⟩
      · rw [nm_inj j i hj hi (hji.trans HIT.out.symm)]
      · exact absurd HIT.out (hno i hi)
    subst hri
    have c7 : w7.cell? ⟨w2.heap.size, 0, none⟩ = some (.int .i64 i) := (hb7.cell (p := ⟨w2.heap.size, 0, none⟩) l6).trans HC5.out
    have hi0 : (0 : Int) ≤ (i : Int) := Int.natCast_nonneg _
    have hfin := HB5.out.trans (hb7.mono HB5.out.size)
    have HFIN := hide hfin
    clear hr hb7 hfin
    go_wp2
    go_ret
    exact ⟨by simp, HFIN.out⟩
  · have hno : ∀ i, i < 10 → nmB i ≠ strOfNums xs := fun i hi h => hfound ⟨i, hi, h⟩
    refine (unm_missing F o w2.heap.size _ xs xs.length (strOfNums xs) _ (by rw [hbw.tape]; exact HF.out) (HTB.out.later hbw) ht3 hno (fun W hW => op_src (hs2.later hb3) xs.length W hW)).mono ?_
    rintro e w3 ⟨u, x, rfl, hb4⟩
    have hb5 : Below w.heap.size w w3 := hbw.trans (hb4.mono hbw.size)
    have hcv := conv_src HSR.out cap _ hb5
    have c5 : w3.cell? ⟨w2.heap.size, 0, none⟩ = some (.int .i64 start) := (hb4.cell (p := ⟨w2.heap.size, 0, none⟩) (World.block_lt_of_cell? _ _ hc3)).trans hc3
    have l6 := World.block_lt_of_cell? w3 _ c5
    have HB5 := hide hb5
    have HC5 := hide c5
    have HNO := hide hno
    clear hb4 hb5 c5 hc3 hz3 hs2 hb3 hbw ht3 hb2 hg2 hno hfound
    go_wp2_with fail
    refine (aindex_any (strOfNums xs) w3).mono ?_
    rintro e w7 ⟨r, rfl, hb7, hr⟩
    have hri : r = -1 := by
      rcases hr with ⟨j, hj, _, hji⟩ | ⟨h, _⟩
      · exact absurd hji (HNO.out j hj)
      · exact h
    subst hri
    have c7 : w7.cell? ⟨w2.heap.size, 0, none⟩ = some (.int .i64 start) := (hb7.cell (p := ⟨w2.heap.size, 0, none⟩) l6).trans HC5.out
    have hfin := HB5.out.trans (hb7.mono HB5.out.size)
    have HFIN := hide hfin
    clear hr hb7 hfin
    go_wp2
    go_ret
    exact ⟨by simp, HFIN.out⟩

set_option maxHeartbeats 1000000 in
theorem text_nil (F : Interp) (o : Nat → Int) (start : Int) (w : World) (hF : F.answers w.tape) (htab : TabBlk o w) :
    Calls Ybaf.prog 4 #[.slice none 0 0, .int .i64 start] w fun e w' => e = .returned (.bool true) ∧ Below w.heap.size w w' := by
  have hmk : ∀ w, (Instr.makeSlice 28 (.int .i64 0) (.int .i64 0)).run Ybaf.prog w = .ok (.slice (some ⟨w.heap.size, 0, none⟩) 0 0) (w.alloc (.cells #[] 5)) := fun w => by kernel_rfl
  have hnil := fun (W : World) (a : Option Addr) (l c : Nat) => Lib.run_eql_slice_nil (P := Ybaf.prog) W 28 5 a l c 0 0 Ybaf.underlying28
  have HTB := hide htab
  have HF := hide hF
  have hsr : ∀ W : World, Src W none [] := fun W => ⟨fun _ => rfl, fun a ha => by cases ha⟩
  have HSR := hide hsr
  clear htab hF hsr
  go_enter Ybaf.func4, Ybaf.ntmps4
  go_wp2_with (refine wpList_copy_nothing rfl (.tmp 15) (.tmp 16) 28 28 rfl 5 Ybaf.underlying28 (by kernel_rfl) (some ⟨w.heap.size, 0, none⟩) none 0 0 0 0 rfl rfl rfl ?_)
  have hb2 : Below w.heap.size w (w.alloc (.cells #[] 5)) := (Below.refl _ _).alloc (Nat.le_refl _) _
  obtain ⟨w2, hw2⟩ : ∃ w2, w2 = w.alloc (.cells #[] 5) := ⟨_, rfl⟩
  have es : w2.heap.size = w.heap.size + 1 := by rw [hw2]; simp
  rw [← hw2] at hb2 ⊢
  rw [← es]
  have l2 : w.heap.size < w2.heap.size := by omega
  have hbw : Below w.heap.size w (w2.alloc (.cells #[.int .i64 start] 24)) := hb2.alloc (Nat.le_of_lt l2) _
  have hc3 : (w2.alloc (.cells #[.int .i64 start] 24)).cell? ⟨w2.heap.size, 0, none⟩ = some (.int .i64 start) := by rw [World.cell?_alloc_new]; rfl
  have ht3 := conv_src (HSR.out (w2.alloc (.cells #[.int .i64 start] 24))) 0
  have hno : ∀ i, i < 10 → nmB i ≠ strOfNums [] := fun i hi h => by
    have h1 : nmL i = [] := by
      have := congrArg (fun b : ByteArray => b.data.toList) h
      simpa [nmB, strOfNums] using this
    have key : ∀ a : Fin 10, nmL a.1 ≠ [] := by decide
    exact key ⟨i, hi⟩ h1
  refine (unm_missing F o w2.heap.size none [] 0 (strOfNums []) _ (by rw [hbw.tape]; exact HF.out) (HTB.out.later hbw) ht3 hno (fun W hW => op_src (HSR.out (w2.alloc (.cells #[.int .i64 start] 24))) 0 W hW)).mono ?_
  rintro e w3 ⟨u, x, rfl, hb4⟩
  have hb5 : Below w.heap.size w w3 := hbw.trans (hb4.mono hbw.size)
  have hcv : (convert 28 9 (.slice none 0 0)).run Ybaf.prog w3 = .ok (.string (strOfNums [])) w3 := conv_src (HSR.out w) 0 _ hb5
  have c5 : w3.cell? ⟨w2.heap.size, 0, none⟩ = some (.int .i64 start) := (hb4.cell (p := ⟨w2.heap.size, 0, none⟩) (World.block_lt_of_cell? _ _ hc3)).trans hc3
  have l6 := World.block_lt_of_cell? w3 _ c5
  have HB5 := hide hb5
  have HC5 := hide c5
  have HNO := hide hno
  clear hb4 hb5 c5 hc3 hbw ht3 hb2 hno hw2 es
  go_wp2_with fail
  refine (aindex_any (strOfNums []) w3).mono ?_
  rintro e w7 ⟨r, rfl, hb7, hr⟩
  have hri : r = -1 := by
    rcases hr with ⟨j, hj, _, hji⟩ | ⟨h, _⟩
    · exact absurd hji (HNO.out j hj)
    · exact h
  subst hri
  have c7 : w7.cell? ⟨w2.heap.size, 0, none⟩ = some (.int .i64 start) := (hb7.cell (p := ⟨w2.heap.size, 0, none⟩) l6).trans HC5.out
  have hfin := HB5.out.trans (hb7.mono HB5.out.size)
  have HFIN := hide hfin
  clear hr hb7 hfin
  go_wp2
  go_ret
  exact ⟨by simp, HFIN.out⟩

set_option maxHeartbeats 400000 in
theorem text_long (ta : Option Addr) (n cap : Nat) (start : Int) (w : World) (hn : 4096 < n) (hm : n ≤ maxLen) :
    Calls Ybaf.prog 4 #[.slice ta n cap, .int .i64 start] w fun e w' => e = .returned (.bool true) ∧ Below w.heap.size w w' := by
  unfold maxLen at hm
  have x1 : (4096 : Int) < (n : Int) := by omega
  go_enter Ybaf.func4, Ybaf.ntmps4
  go_wp2
  go_ret
  exact ⟨rfl, Below.refl _ _⟩
end Go.Proofs.YbulkkaaFmt
