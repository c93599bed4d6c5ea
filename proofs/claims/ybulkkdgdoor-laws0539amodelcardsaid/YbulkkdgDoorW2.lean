import Derived.Test.YbulkkdgDoorW1
namespace Go.Proofs.YbulkkdgDoor
open Go.RowKit Go.PlainAid

/-- A row of bytes that the call owns. -/
def Row (w : World) (base : Nat) (v : Value) (zs : List Int) : Prop := w.ownsRow base 5 1 v zs.length (zs.map (Value.int .u8))

theorem Row.alloc {w : World} {base : Nat} {v : Value} {zs : List Int} (h : Row w base v zs) (ob : Obj) : Row (w.alloc ob) base v zs := World.ownsRow.alloc h ob

theorem row_one {w : World} {base : Nat} {v : Value} {zs : List Int} {c : Int} (h : w.ownsRow base 5 1 v (zs.length + 1) (zs.map (Value.int .u8) ++ [.int .u8 c])) : Row w base v (zs ++ [c]) := by
  unfold Row
  simpa using h

/-- A string's bytes as numbers. -/
def nums (s : ByteArray) : List Int := s.data.toList.map fun b => (b.toNat : Int)
theorem nums_length (s : ByteArray) : (nums s).length = s.size := by
  rw [nums, List.length_map, Array.length_toList]; rfl
theorem strCells_nums (s : ByteArray) : Lib.strCells s = (nums s).map (Value.int .u8) := by simp [Lib.strCells, nums]

theorem row_str {w : World} {base : Nat} {v : Value} {zs : List Int} {s : ByteArray} (h : w.ownsRow base 5 1 v (zs.length + s.size) (zs.map (Value.int .u8) ++ Lib.strCells s)) : Row w base v (zs ++ nums s) := by
  unfold Row
  rw [strCells_nums] at h
  simpa [nums_length] using h

theorem Row.grown {w w0 : World} {base : Nat} {v : Value} {zs : List Int} (h : Row w base v zs) (hb : Below base w0 w) (hbase : base ≤ w.heap.size) {ob : Obj} {w' : World} (hg : (w.alloc ob).grownBy w' v.ownBlock) : Below base w0 w' :=
  (hb.alloc hbase ob).grown hg (by simp; omega) (fun k hk => (World.ownsRow.lt h k hk).1)
theorem Row.grown0 {w w0 : World} {base : Nat} {v : Value} {zs : List Int} (h : Row w base v zs) (hb : Below base w0 w) (hbase : base ≤ w.heap.size) {w' : World} (hg : w.grownBy w' v.ownBlock) : Below base w0 w' :=
  hb.grown hg hbase (fun k hk => (World.ownsRow.lt h k hk).1)

/-- The table of escapes. -/
def Tab (w : World) : Prop := ∀ c : Int, 0 ≤ c → c ≤ 255 → w.cell? ⟨0, c.toNat, none⟩ = some (.string (escB c))

theorem Tab.later {w W : World} {base : Nat} (h : Tab w) (h0 : 0 < base) (hb : Below base w W) : Tab W := fun c a b => (hb.cell (p := ⟨0, c.toNat, none⟩) h0).trans (h c a b)

/-- What stands for one byte between the quotes. -/
def piece (c : Int) : List Int := if esc c = [] then [c] else nums (escB c)
def q (s : ByteArray) : Nat → List Int
  | 0 => []
  | k + 1 => q s k ++ piece (bt s k)
def outQ (s : ByteArray) : List Int := 34 :: (q s s.size ++ [34])

theorem esc_len (c : Int) : (esc c).length ≤ 2 := by
  unfold esc
  repeat' split
  all_goals simp
theorem piece_len (c : Int) : (piece c).length ≤ 2 := by
  unfold piece
  split
  · simp
  · rw [nums_length]; exact esc_len c
theorem q_len (s : ByteArray) : ∀ k, (q s k).length ≤ 2 * k
  | 0 => by simp [q]
  | k + 1 => by have := q_len s k; have := piece_len (bt s k); simp [q]; omega

theorem escB_size (c : Int) : (escB c).size = (esc c).length := rfl
theorem escB_empty {c : Int} (h : esc c = []) : (escB c).toList.isEmpty = true := by rw [escB, h, Go.ByteArray.toList_eq]; rfl
theorem escB_full {c : Int} (h : ¬ esc c = []) : (escB c).toList.isEmpty = false := nonempty_of (fun e => h (List.eq_nil_of_length_eq_zero (by rw [← escB_size]; exact e)))

theorem info5 : ∃ i, Ybad.prog.info? 5 = some i ∧ i.zero = some (.int .u8 0) ∧ i.size = 1 ∧ i.bytes = 1 := by
  have hinfo : (Ybad.prog.info? 5).map (fun i => (i.zero, i.size, i.bytes)) = some (some (.int .u8 0), 1, 1) := by kernel_rfl
  exact info_parts hinfo

theorem one_u8 (c : Int) : ∀ x ∈ [Value.int .u8 c], x.oneCell' = true := fun x hx => by simp at hx; subst hx; rfl

set_option maxHeartbeats 1000000 in
theorem appq_any (base : Nat) (v : Value) (zs : List Int) (s : ByteArray) (w : World) (hrow : Row w base v zs) (hz : zs.length ≤ 4096) (hs : s.size ≤ 1024) (h0 : 0 < base) (hbase : base ≤ w.heap.size) (htab : Tab w) :
    Calls Ybad.prog 11 #[v, .string s] w fun e w' => ∃ v', e = .returned v' ∧ Row w' base v' (zs ++ outQ s) ∧ Below base w w' := by
  obtain ⟨i0, hi, hz0, hz1, hz2⟩ := info5
  have hb := get_bt s
  have HR := hide hrow
  have HT := hide htab
  have HI := hide hi
  have HZ0 := hide hz0
  clear hrow htab hi hz0
  go_enter Ybad.func11, Ybad.ntmps11
  go_wp2_with (at_builtin; refine wpList_append_own _ rfl _ _ 22 rfl base 5 i0 (.int .u8 0) 1 1 Ybad.underlying22 HI.out HZ0.out hz1 hz2 rfl (by decide) _ _ _ rfl (HR.out.alloc _) ⟨w.heap.size, 0, none⟩ 1 1 [.int .u8 34] rfl rfl (cell_one_new _ _ _) (one_u8 _) (by unfold maxLen; omega) (by omega) (by simp; omega) ?_; intro v1 w1 hown1 hgrow1 hnil1)
  have row1 : Row w1 base v1 (zs ++ [34]) := row_one hown1
  have bel1 : Below base w w1 := HR.out.grown (Below.refl _ _) hbase hgrow1
  have HR1 := hide row1
  have HB1 := hide bel1
  clear hown1 hgrow1 hnil1 row1 bel1
  go_loopw [0, 12] (fun vr i wr => ∃ k : Nat, k ≤ s.size ∧ i = .int .i64 k ∧ Hid (Row wr base vr (zs ++ 34 :: q s k)) ∧ Hid (Below base w wr)) (fun _ i _ => s.size - (intOf i).toNat)
  case atStart => exact ⟨0, Nat.zero_le _, rfl, HR1, HB1⟩
  case round =>
    obtain ⟨k, hk, rfl, hrw, hbw⟩ := hrel
    have hbs : base ≤ wr.heap.size := Nat.le_trans hbase hbw.out.size
    have hql := q_len s k
    have hlen : (zs ++ 34 :: q s k).length ≤ 8000 := by simp; omega
    by_cases hlt : k < s.size
    · have hc0 := bt_nonneg s k
      have hc1 := bt_le s k
      have hcell := (HT.out.later h0 hbw.out) (bt s k) hc0 hc1
      by_cases he : esc (bt s k) = []
      · have hE := escB_empty he
        have hpc : piece (bt s k) = [bt s k] := by simp [piece, he]
        have HP := hide hpc
        have HE := hide he
        clear hpc he
        go_wp2_with (at_builtin; refine wpList_append_own _ rfl _ _ 22 rfl base 5 i0 (.int .u8 0) 1 1 Ybad.underlying22 HI.out HZ0.out hz1 hz2 rfl (by decide) _ _ _ rfl (hrw.out.alloc _) ⟨wr.heap.size, 0, none⟩ 1 1 [.int .u8 (bt s k)] rfl rfl (cell_one_new _ _ _) (one_u8 _) (by unfold maxLen; omega) (by omega) (by simp; omega) ?_; intro v2 w2 hown2 hgrow2 hnil2)
        go_round
        case rel =>
          refine ⟨k + 1, by omega, by go_num, ?_, hide (hrw.out.grown hbw.out hbs hgrow2)⟩
          have := row_one hown2
          rw [List.append_assoc, List.cons_append, ← HP.out] at this
          exact this
        case measure => simp [intOf]; omega
      · have hE := escB_full he
        have hpc : piece (bt s k) = nums (escB (bt s k)) := by simp [piece, he]
        have hel := esc_len (bt s k)
        rw [← escB_size] at hel
        have HP := hide hpc
        have HE := hide he
        clear hpc he
        go_wp2_with (at_builtin; refine Lib.wpList_append_own_string _ rfl _ _ 22 9 rfl base 5 i0 Ybad.underlying22 Ybad.underlying9 HI.out HZ0.out hz1 hz2 _ _ _ rfl hrw.out (escB (bt s k)) rfl (by unfold maxLen; omega) (by omega) hbs ?_; intro v2 w2 hown2 hgrow2 hnil2)
        go_round
        case rel =>
          refine ⟨k + 1, by omega, by go_num, ?_, hide (hrw.out.grown0 hbw.out hbs hgrow2)⟩
          have := row_str hown2
          rw [List.append_assoc, List.cons_append, ← HP.out] at this
          exact this
        case measure => simp [intOf]; omega
    · obtain rfl : k = s.size := by omega
      go_wp2_with (at_builtin; refine wpList_append_own _ rfl _ _ 22 rfl base 5 i0 (.int .u8 0) 1 1 Ybad.underlying22 HI.out HZ0.out hz1 hz2 rfl (by decide) _ _ _ rfl (hrw.out.alloc _) ⟨wr.heap.size, 0, none⟩ 1 1 [.int .u8 34] rfl rfl (cell_one_new _ _ _) (one_u8 _) (by unfold maxLen; omega) (by omega) (by simp; omega) ?_; intro v2 w2 hown2 hgrow2 hnil2)
      go_ret
      refine ⟨v2, rfl, ?_, hrw.out.grown hbw.out hbs hgrow2⟩
      have := row_one hown2
      rw [List.append_assoc, List.cons_append] at this
      exact this
end Go.Proofs.YbulkkdgDoor
