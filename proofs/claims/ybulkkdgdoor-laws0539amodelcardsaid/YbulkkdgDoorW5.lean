import Derived.Test.YbulkkdgDoorW4
import Derived.Laws.CopyOwn
import Derived.Deep.DeepCutAuto
namespace Go.Proofs.YbulkkdgDoor
open Go.RowKit Go.PlainAid

/-- The bytes of the slice that came in. -/
def Src (w : World) (ta : Option Addr) (xs : List Int) : Prop := ∀ a, ta = some a → ∀ j v, (xs.map (Value.int .u8))[j]? = some v → w.cell? (a.add j) = some v

theorem Src.later {w W : World} {ta : Option Addr} {xs : List Int} (h : Src w ta xs) (hb : Below w.heap.size w W) : Src W ta xs :=
  fun a ha j v hj => (hb.cell (World.block_lt_of_cell? w _ (h a ha j v hj))).trans (h a ha j v hj)

theorem make22 (n : Nat) (hn : n ≤ 1024) (w : World) :
    (Instr.makeSlice 22 (.int .i64 (n : Int)) (.int .i64 (n : Int))).run Ybad.prog w = .ok (.slice (some ⟨w.heap.size, 0, none⟩) n n) (w.alloc (.cells (madeCells #[.int .u8 0] n) 5)) := by
  obtain ⟨i, hi, hz, hs, hb⟩ := info5
  have hr := run_make (P := Ybad.prog) w 22 5 i _ Ybad.underlying22 hi hz .i64 .i64 n n (by omega) (Int.le_refl _) (by rw [hb]; omega) (by omega)
  simp only [Int.toNat_natCast, hs, Nat.mul_one] at hr
  exact hr

/-- Behind the copy the row is the bytes that came in. -/
theorem row_copy {W : World} {base g : Nat} {xs : List Int} (hx : xs.length ≤ 1024) (hg : base ≤ g) (h : W.heap[g]? = some (.cells (splice (madeCells #[.int .u8 0] xs.length).toList 0 (xs.map (Value.int .u8))).toArray 5 (0, 0))) : Row W base (.slice (some ⟨g, 0, none⟩) xs.length xs.length) xs := by
  have e : splice (madeCells #[.int .u8 0] xs.length).toList 0 (xs.map (Value.int .u8)) = xs.map (Value.int .u8) := by
    unfold splice
    rw [List.drop_of_length_le (by simp [size_madeCells])]
    simp
  rw [e] at h
  refine ⟨by simp, .inr ⟨g, xs.length, _, rfl, hg, h, Nat.le_refl _, by unfold maxLen; omega, by simp, ?_⟩⟩
  rw [Nat.mul_one]
  exact List.take_of_length_le (by simp)

theorem out_len (s : ByteArray) : (out s).length ≤ 2 * s.size + 2 := by
  unfold out
  split
  · have := q_len s s.size
    simp [outQ]
    omega
  · rw [nums_length]; omega

set_option maxHeartbeats 1000000 in
theorem model_main (ta : Option Addr) (cap : Nat) (xs : List Int) (s : ByteArray) (w : World) (hx : xs.length ≤ 1024) (hs : s.size ≤ 1024) (hnone : ta = none → xs.length = 0 ∧ cap = 0) (hsrc : Src w ta xs) (h0 : 0 < w.heap.size) (htab : Tab w) :
    Calls Ybad.prog 3 #[.slice ta xs.length cap, .string s] w fun e w' => e = .returned (.bool true) ∧ Hid (Below w.heap.size w w') := by
  obtain ⟨i0, hi, hz0, hz1, hz2⟩ := info5
  have hb := get_bt s
  have hmk := make22 xs.length hx
  have HNO := hide hnone
  have HSR := hide hsrc
  have HT := hide htab
  have HI := hide hi
  have HZ0 := hide hz0
  have hx' : ¬ (1024 : Int) < (xs.length : Int) := by omega
  have hs' : ¬ (1024 : Int) < (s.size : Int) := by omega
  clear hsrc htab hnone hi hz0
  go_enter Ybad.func3, Ybad.ntmps3
  go_upto_if 19 with fail
  go_cut [5] (fun s5 wx => Hid (Row wx w.heap.size s5 xs) ∧ Hid (Below w.heap.size w wx))
  case first =>
    cases ta with
    | none =>
      have hl := (HNO.out rfl).1
      obtain rfl : xs = [] := List.eq_nil_of_length_eq_zero hl
      go_wp2
      go_meet
      case rel => exact ⟨World.ownsRow_nil _ _ _ _, Below.refl _ _⟩
    | some a =>
      have HCP := hide ((HSR.out.later ((Below.refl _ _).alloc (Nat.le_refl _) (.cells (madeCells #[.int .u8 0] xs.length) 5))) a rfl)
      go_wp2_with (refine wpList_copy_splice rfl (.tmp 23) (.tmp 24) 22 22 rfl 5 Ybad.underlying22 (by kernel_rfl) (some ⟨w.heap.size, 0, none⟩) (some a) xs.length xs.length xs.length cap rfl rfl w.heap.size 0 (madeCells #[.int .u8 0] xs.length).toList 5 (by simpa using heap_alloc_new w _) (xs.map (Value.int .u8)) (by simp) (fun _ => ⟨rfl, a, rfl, HCP.out⟩) (by simp [size_madeCells]) (ints_oneCell _ _) w.heap.size w ((Below.refl _ _).alloc (Nat.le_refl _) _) (Nat.le_refl _) ?_; intro w2 hg2 hb2)
      go_meet
      case rel => exact ⟨hide (row_copy hx (Nat.le_refl _) hg2.out), hide hb2⟩
  case rest =>
    obtain ⟨hrow, hbel⟩ := hcut
    clear hmk
    go_wp2_with fail
    refine (app_any w.heap.size u5 xs s wc hrow.out (by omega) hs h0 hbel.out.size (HT.out.later h0 hbel.out)).mono ?_
    rintro e w3 ⟨v3, rfl, hr3, hb3⟩
    have hb30 : Below w.heap.size w w3 := hbel.out.trans hb3
    have HR3 := hide hr3
    have HB3 := hide hb30
    clear hr3 hb3 hb30 hrow hbel
    have HS3 := hide (HSR.out.later HB3.out)
    go_wp2_with (first
      | (refine wpList_make_own _ rfl _ _ 22 rfl w3.heap.size 5 i0 (.int .u8 0) 1 Ybad.underlying22 HI.out HZ0.out hz1 .i64 .i64 _ (xs.length + 2 * s.size + 2) rfl rfl (by omega) (by rw [hz2]; omega) (by unfold maxLen; omega) (Nat.le_refl _) ?_; intro w4 hown4 hgrow4)
      | (at_builtin; refine wpList_append_fits_any _ rfl (.tmp 37) (.tmp 38) 22 rfl w3.heap.size 5 i0 1 Ybad.underlying22 HI.out hz1 w3.heap.size 0 (xs.length + 2 * s.size + 2) [] rfl hown4 ta xs.length cap (xs.map (Value.int .u8)) rfl (by simp) HNO.out ((HS3.out.later ((Below.refl _ _).grown hgrow4 (Nat.le_refl _) (fun k hk => by cases hk)))) (ints_oneCell _ _) (by omega) ?_; intro w5 hown5 hgrow5))
    have row5 : Row w5 w3.heap.size (.slice (some ⟨w3.heap.size, 0, none⟩) xs.length (xs.length + 2 * s.size + 2)) xs := by unfold Row; simpa using hown5
    have bel4 : Below w3.heap.size w3 w4 := (Below.refl _ _).grown hgrow4 (Nat.le_refl _) (fun k hk => by cases hk)
    have bel5 : Below w3.heap.size w3 w5 := bel4.grown hgrow5 bel4.size (fun k hk => by cases hk; exact Nat.le_refl _)
    have HR5 := hide row5
    have HB5 := hide bel5
    have b5 := bel5.size
    clear row5 bel4 bel5 hown4 hown5 hgrow4 hgrow5
    have hfin : ∀ (W : World) (v7 : Value), Row W w3.heap.size v7 (xs ++ out s) → Below w3.heap.size w3 W →
        Calls Ybad.prog 8 #[v3, v7] W fun e w' => e = .returned (.bool true) ∧ Hid (Below w.heap.size w w') := fun W v7 hr hb => by
      have hl : (xs ++ out s).length ≤ 8000 := by
        have := out_len s
        simp
        omega
      refine (eq_rows (HR3.out.later hb) hr hl).mono ?_
      rintro e w9 ⟨rfl, hsm⟩
      exact ⟨rfl, hide ((HB3.out.trans (hb.mono HB3.out.size)).trans (hsm.out.below _))⟩
    have HFIN := hide hfin
    clear hfin
    refine (aquote_any s w5 hs).mono ?_
    rintro e w6 ⟨rfl, ⟨hq, rfl⟩ | ⟨hq, rfl⟩⟩
    · have HQ := hide (out_quoted hq)
      clear hq
      go_wp2_with (at_builtin; refine wpList_append_own _ rfl _ _ 22 rfl w3.heap.size 5 i0 (.int .u8 0) 1 1 Ybad.underlying22 HI.out HZ0.out hz1 hz2 rfl (by decide) _ _ _ rfl (HR5.out.alloc _) ⟨w6.heap.size, 0, none⟩ 1 1 [.int .u8 34] rfl rfl (cell_one_new _ _ _) (one_u8 _) (by unfold maxLen; omega) (by omega) (by simp; omega) ?_; intro v7 w7 hown7 hgrow7 hnil7)
      have HR7 := hide (row_one hown7)
      have HB7 := hide (HR5.out.grown HB5.out b5 hgrow7)
      clear hown7 hgrow7 hnil7
      go_loopw [7, 8] (fun vr i wr => ∃ k : Nat, k ≤ s.size ∧ i = .int .i64 k ∧ Hid (Row wr w3.heap.size vr (xs ++ 34 :: q s k)) ∧ Hid (Below w3.heap.size w3 wr)) (fun _ i _ => s.size - (intOf i).toNat)
      case atStart => exact ⟨0, Nat.zero_le _, rfl, HR7, HB7⟩
      case round =>
        obtain ⟨k, hk, rfl, hrw, hbw⟩ := hrel
        have hbs : w3.heap.size ≤ wr.heap.size := hbw.out.size
        have hql := q_len s k
        have hlen : (xs ++ 34 :: q s k).length ≤ 8000 := by simp; omega
        by_cases hlt : k < s.size
        · have hc0 := bt_nonneg s k
          have hc1 := bt_le s k
          go_wp2_with fail
          refine (esc_any (bt s k) wr).mono ?_
          rintro e w8 ⟨rfl, rfl⟩
          by_cases he : esc (bt s k) = []
          · have hE := escB_empty he
            have hpc : piece (bt s k) = [bt s k] := by simp [piece, he]
            have HP := hide hpc
            have HE := hide he
            clear hpc he
            go_wp2_with (at_builtin; refine wpList_append_own _ rfl _ _ 22 rfl w3.heap.size 5 i0 (.int .u8 0) 1 1 Ybad.underlying22 HI.out HZ0.out hz1 hz2 rfl (by decide) _ _ _ rfl (hrw.out.alloc _) ⟨w8.heap.size, 0, none⟩ 1 1 [.int .u8 (bt s k)] rfl rfl (cell_one_new _ _ _) (one_u8 _) (by unfold maxLen; omega) (by omega) (by simp; omega) ?_; intro v2 w2 hown2 hgrow2 hnil2)
            go_round
            case rel =>
              refine ⟨k + 1, by omega, by go_num, ?_, hide (hrw.out.grown hbw.out hbs hgrow2)⟩
              have := row_one hown2
              rw [List.append_assoc, List.cons_append, ← HP.out] at this
              exact this
            case measure => simp [intOf]; omega
          · have hE := escB_full he
            have hpc : piece (bt s k) = nums (escB (bt s k)) := by simp [piece, he]
            have hel := esc_len (bt s k)
            rw [← escB_size] at hel
            have HP := hide hpc
            have HE := hide he
            clear hpc he
            go_wp2_with (at_builtin; refine Lib.wpList_append_own_string _ rfl _ _ 22 9 rfl w3.heap.size 5 i0 Ybad.underlying22 Ybad.underlying9 HI.out HZ0.out hz1 hz2 _ _ _ rfl hrw.out (escB (bt s k)) rfl (by unfold maxLen; omega) (by omega) hbs ?_; intro v2 w2 hown2 hgrow2 hnil2)
            go_round
            case rel =>
              refine ⟨k + 1, by omega, by go_num, ?_, hide (hrw.out.grown0 hbw.out hbs hgrow2)⟩
              have := row_str hown2
              rw [List.append_assoc, List.cons_append, ← HP.out] at this
              exact this
            case measure => simp [intOf]; omega
        · obtain rfl : k = s.size := by omega
          go_wp2_with (at_builtin; refine wpList_append_own _ rfl _ _ 22 rfl w3.heap.size 5 i0 (.int .u8 0) 1 1 Ybad.underlying22 HI.out HZ0.out hz1 hz2 rfl (by decide) _ _ _ rfl (hrw.out.alloc _) ⟨wr.heap.size, 0, none⟩ 1 1 [.int .u8 34] rfl rfl (cell_one_new _ _ _) (one_u8 _) (by unfold maxLen; omega) (by omega) (by simp; omega) ?_; intro v2 w2 hown2 hgrow2 hnil2)
          have row2 : Row w2 w3.heap.size v2 (xs ++ out s) := by
            have := row_one hown2
            rw [List.append_assoc, List.cons_append] at this
            rw [HQ.out]
            exact this
          refine (HFIN.out w2 v2 row2 (hrw.out.grown hbw.out hbs hgrow2)).mono ?_
          rintro e w9 ⟨rfl, hb9⟩
          clear row2 hown2 hgrow2 hnil2
          go_wp2
          go_ret
          exact ⟨rfl, hb9⟩
    · have HQ := hide (out_plain hq)
      clear hq
      go_wp2_with (at_builtin; refine Lib.wpList_append_own_string _ rfl _ _ 22 9 rfl w3.heap.size 5 i0 Ybad.underlying22 Ybad.underlying9 HI.out HZ0.out hz1 hz2 _ _ _ rfl HR5.out s rfl (by unfold maxLen; omega) (by omega) b5 ?_; intro v2 w2 hown2 hgrow2 hnil2)
      have row2 : Row w2 w3.heap.size v2 (xs ++ out s) := by rw [HQ.out]; exact row_str hown2
      refine (HFIN.out w2 v2 row2 (HR5.out.grown0 HB5.out b5 hgrow2)).mono ?_
      rintro e w9 ⟨rfl, hb9⟩
      clear row2 hown2 hgrow2 hnil2
      go_wp2
      go_ret
      exact ⟨rfl, hb9⟩
end Go.Proofs.YbulkkdgDoor
