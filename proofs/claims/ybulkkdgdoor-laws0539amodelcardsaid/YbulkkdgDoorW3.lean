import Derived.Test.YbulkkdgDoorW2
import Derived.Laws.BytesArg
import Derived.Deep.RegionWith
namespace Go.Proofs.YbulkkdgDoor
open Go.RowKit Go.PlainAid

/-- NQ, reckoned. -/
def nqB (s : ByteArray) : Bool := decide (s.size = 0) || decide (bt s 0 = 34) || decide (bt s 0 = 32) || decide (bt s (s.size - 1) = 32) || (List.range s.size).any fun k => decide (bt s k < 32)
theorem nqB_iff (s : ByteArray) : nqB s = true ↔ NQ s := by
  simp [nqB, NQ, or_assoc]
/-- What Append lays behind the row. -/
def out (s : ByteArray) : List Int := if nqB s = true then outQ s else nums s
theorem out_quoted {s : ByteArray} (h : NQ s) : out s = outQ s := if_pos ((nqB_iff s).2 h)
theorem out_plain {s : ByteArray} (h : ¬ NQ s) : out s = nums s := if_neg (fun e => h ((nqB_iff s).1 e))

theorem str_nums (s : ByteArray) : strOfNums (nums s) = s := by
  cases s with | mk d =>
  simp only [strOfNums, nums, List.map_map]
  congr 1
  apply Array.ext'
  simp [Function.comp_def]

theorem conv_row {W : World} {base : Nat} {v : Value} {zs : List Int} (h : Row W base v zs) : (convert 22 9 v).run Ybad.prog W = .ok (.string (strOfNums zs)) W := by
  rcases h.2 with ⟨rfl, hn⟩ | ⟨g, cap, cur, rfl, _⟩
  · obtain rfl : zs = [] := List.eq_nil_of_length_eq_zero hn
    exact run_convert_bytes_nil W 22 5 Ybad.underlying22 Ybad.underlying5 0 0 9 Ybad.underlying9
  · have hl := run_loadCells_list (P := Ybad.prog) W ⟨g, 0, none⟩ (zs.map (Value.int .u8)) (World.ownsRow.cells h (g := g) rfl)
    rw [List.length_map] at hl
    rw [run_convert_bytes_string W 22 9 5 (some ⟨g, 0, none⟩) zs.length cap Ybad.underlying22 Ybad.underlying5 Ybad.underlying9, run_bytesToString W ⟨g, 0, none⟩ zs.length cap zs hl, foldl_push_bytes]
    simp [strOfNums, ByteArray.empty, ByteArray.emptyWithCapacity]
    rfl

theorem Row.later {w W : World} {base : Nat} {v : Value} {zs : List Int} (h : Row w base v zs) (hb : Below w.heap.size w W) : Row W base v zs := by
  refine ⟨h.1, ?_⟩
  rcases h.2 with ⟨rfl, hn⟩ | ⟨g, cap, cur, rfl, h1, h2, h3⟩
  · exact .inl ⟨rfl, hn⟩
  · exact .inr ⟨g, cap, cur, rfl, h1, by rw [hb.block g (lt_of_block h2)]; exact h2, h3⟩

set_option maxHeartbeats 400000 in
theorem app_any (base : Nat) (v : Value) (zs : List Int) (s : ByteArray) (w : World) (hrow : Row w base v zs) (hz : zs.length ≤ 4096) (hs : s.size ≤ 1024) (h0 : 0 < base) (hbase : base ≤ w.heap.size) (htab : Tab w) :
    Calls Ybad.prog 5 #[v, .string s] w fun e w' => ∃ v', e = .returned v' ∧ Row w' base v' (zs ++ out s) ∧ Below base w w' := by
  obtain ⟨i0, hi, hz0, hz1, hz2⟩ := info5
  have HR := hide hrow
  have HT := hide htab
  have HI := hide hi
  have HZ0 := hide hz0
  clear hrow htab hi hz0
  go_enter Ybad.func5, Ybad.ntmps5
  go_wp2_with fail
  refine (needs_any s w hs).mono ?_
  rintro e w1 ⟨rfl, ⟨hq, rfl⟩ | ⟨hq, rfl⟩⟩
  · have HQ := hide hq
    clear hq
    go_wp2_with fail
    refine (appq_any base v zs s w1 HR.out hz hs h0 hbase HT.out).mono ?_
    rintro e w2 ⟨v2, rfl, hr2, hb2⟩
    go_wp2
    go_ret
    exact ⟨v2, rfl, by rw [out_quoted HQ.out]; exact hr2, hb2⟩
  · have HQ := hide hq
    clear hq
    go_wp2_with (at_builtin; refine Lib.wpList_append_own_string _ rfl _ _ 22 9 rfl base 5 i0 Ybad.underlying22 Ybad.underlying9 HI.out HZ0.out hz1 hz2 _ _ _ rfl HR.out s rfl (by unfold maxLen; omega) (by omega) hbase ?_; intro v2 w2 hown2 hgrow2 hnil2)
    go_ret
    exact ⟨v2, rfl, by rw [out_plain HQ.out]; exact row_str hown2, HR.out.grown0 (Below.refl _ _) hbase hgrow2⟩

theorem app_nil (s : ByteArray) (w : World) (hs : s.size ≤ 1024) (h0 : 0 < w.heap.size) (htab : Tab w) :
    Calls Ybad.prog 5 #[.slice none 0 0, .string s] w fun e w' => ∃ v', e = .returned v' ∧ Hid (∀ W, Below w'.heap.size w' W → (convert 22 9 v').run Ybad.prog W = .ok (.string (strOfNums (out s))) W) ∧ Hid (Below w.heap.size w w') := by
  refine (app_any w.heap.size (.slice none 0 0) [] s w (World.ownsRow_nil _ _ _ _) (by simp) hs h0 (Nat.le_refl _) htab).mono ?_
  rintro e w1 ⟨v1, rfl, hr, hb⟩
  exact ⟨v1, rfl, fun W hW => conv_row (hr.later hW), hb⟩

set_option maxHeartbeats 400000 in
theorem format_any (s : ByteArray) (w : World) (hs : s.size ≤ 1024) (h0 : 0 < w.heap.size) (htab : Tab w) :
    Calls Ybad.prog 9 #[.string s] w fun e w' => e = .returned (.string (strOfNums (out s))) ∧ Hid (Below w.heap.size w w') := by
  obtain ⟨i0, hi, hz0, hz1, hz2⟩ := info5
  have HT := hide htab
  have HI := hide hi
  have HZ0 := hide hz0
  clear htab hi hz0
  go_enter Ybad.func9, Ybad.ntmps9
  go_wp2_with fail
  refine (needs_any s w hs).mono ?_
  rintro e w1 ⟨rfl, ⟨hq, rfl⟩ | ⟨hq, rfl⟩⟩
  · have HQ := hide hq
    clear hq
    go_wp2_with (refine wpList_make_own _ rfl _ _ 22 rfl w1.heap.size 5 i0 (.int .u8 0) 1 Ybad.underlying22 HI.out HZ0.out hz1 .i64 .i64 _ (s.size + 2) rfl rfl (by simp) (by rw [hz2]; omega) (by unfold maxLen; omega) (Nat.le_refl _) ?_; intro w2 hown2 hgrow2)
    have hb2 : Below w1.heap.size w1 w2 := (Below.refl _ _).grown hgrow2 (Nat.le_refl _) (fun k hk => by cases hk)
    refine (app_any w1.heap.size _ [] s w2 hown2 (by simp) hs h0 hb2.size (HT.out.later h0 hb2)).mono ?_
    rintro e w3 ⟨v3, rfl, hr3, hb3⟩
    have hcv := conv_row hr3
    have HB := hide (hb2.trans hb3)
    clear hr3 hb3 hown2 hgrow2 hb2
    go_wp2
    go_ret
    exact ⟨rfl, HB⟩
  · have he : strOfNums (out s) = s := by rw [out_plain hq, str_nums]
    have HE := hide he
    clear he hq
    go_wp2
    go_ret
    exact ⟨by rw [HE.out]; rfl, Below.refl _ _⟩

theorem undraw {w w1 w2 : World} (h1 : Below w.drew.heap.size w.drew w1) (h2 : Below w1.heap.size w1 w2) : Below w.heap.size w w2 :=
  ((Below.refl _ _).drew.trans h1).trans (h2.mono h1.size)

set_option maxHeartbeats 400000 in
theorem law_format (s : ByteArray) (w : World) (hs : s.size ≤ 1024) (h0 : 0 < w.heap.size) (htab : Tab w) :
    Calls Ybad.prog 4 #[.string s] w fun e w' => e = .returned (.bool true) ∧ Hid (Below w.heap.size w w') := by
  have HT := hide htab
  clear htab
  have hs' : ¬ (1024 : Int) < (s.size : Int) := by omega
  go_enter Ybad.func4, Ybad.ntmps4
  go_wp2_with fail
  go_region_with (first
    | (go_at_call 5; refine (app_nil s _ hs (show 0 < w.drew.heap.size from h0) (show Tab w.drew from HT.out)).mono ?_; rintro e w1 ⟨v1, rfl, hcv1, hb1⟩; have hcvA := hcv1.out _ (Below.refl _ _))
    | (go_at_call 9; refine (format_any s _ hs (Nat.lt_of_lt_of_le h0 hb1.out.size) ((show Tab w.drew from HT.out).later (show 0 < w.drew.heap.size from h0) hb1.out)).mono ?_; rintro e w2 ⟨rfl, hb2⟩; have hcvB := hcv1.out _ hb2.out))
  all_goals go_wp2
  all_goals go_ret
  all_goals exact ⟨rfl, hide (undraw hb1.out hb2.out)⟩

set_option maxHeartbeats 400000 in
theorem law_format_long (s : ByteArray) (w : World) (hs : 1024 < s.size) (hm : s.size ≤ maxLen) :
    Calls Ybad.prog 4 #[.string s] w fun e w' => e = .returned (.bool true) ∧ Hid (Below w.heap.size w w') := by
  unfold maxLen at hm
  have hs' : (1024 : Int) < (s.size : Int) := by omega
  go_enter Ybad.func4, Ybad.ntmps4
  go_wp2
  go_ret
  exact ⟨rfl, Below.refl _ _⟩
end Go.Proofs.YbulkkdgDoor
