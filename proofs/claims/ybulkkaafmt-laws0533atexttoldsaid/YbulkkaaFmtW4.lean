import Derived.Test.YbulkkaaFmtErr
import Derived.Deep.RegionHeld3
import Derived.Deep.DrawnRows
namespace Go.Proofs.YbulkkaaFmt
open Go.RowKit Go.Extern.Stop Go.Stop Go.Extern

/-- The table's cells, written out. -/
def tabA (o : Nat → Int) : Array Value := #[.string (nmB 0), .int .i64 (o 0), .string (nmB 1), .int .i64 (o 1), .string (nmB 2), .int .i64 (o 2), .string (nmB 3), .int .i64 (o 3), .string (nmB 4), .int .i64 (o 4),
  .string (nmB 5), .int .i64 (o 5), .string (nmB 6), .int .i64 (o 6), .string (nmB 7), .int .i64 (o 7), .string (nmB 8), .int .i64 (o 8), .string (nmB 9), .int .i64 (o 9)]

/-- The table's block. -/
def TabBlk (o : Nat → Int) (w : World) : Prop := ∃ tt fr, w.heap[0]? = some (.cells (tabA o) tt fr)

theorem TabBlk.lt {o : Nat → Int} {w : World} (h : TabBlk o w) : 0 < w.heap.size := by
  obtain ⟨tt, fr, hh⟩ := h
  exact lt_of_block hh

theorem TabBlk.later {o : Nat → Int} {w W : World} (h : TabBlk o w) (hb : Below w.heap.size w W) : TabBlk o W := by
  have h0 := h.lt
  obtain ⟨tt, fr, hh⟩ := h
  exact ⟨tt, fr, (hb.block 0 h0).trans hh⟩

theorem TabBlk.tab {o : Nat → Int} {w : World} (h : TabBlk o w) : TabIs w := by
  refine ⟨h.lt, fun i hi => ?_⟩
  obtain ⟨tt, fr, hh⟩ := h
  match i, hi with
  | 0, _ | 1, _ | 2, _ | 3, _ | 4, _ | 5, _ | 6, _ | 7, _ | 8, _ | 9, _ => exact ⟨by simp [World.cell?, hh, tabA], _, by simp [World.cell?, hh, tabA]; rfl⟩

theorem idx40 (o : Nat → Int) (k : Nat) (hk : k < 10) (w : World) : (Instr.index 40 (.agg (tabA o)) (.int .i64 (k : Int))).run Ybaf.prog w = .ok (.agg #[.string (nmB k), .int .i64 (o k)]) w := by
  have h10 : k = 0 ∨ k = 1 ∨ k = 2 ∨ k = 3 ∨ k = 4 ∨ k = 5 ∨ k = 6 ∨ k = 7 ∨ k = 8 ∨ k = 9 := by omega
  clear hk
  rcases h10 with rfl | rfl | rfl | rfl | rfl | rfl | rfl | rfl | rfl | rfl <;> (show _ = _; kernel_rfl)

theorem size40 (o : Nat → Int) : (Ybaf.prog.info? 40).map (·.size) = some (tabA o).size := by kernel_rfl

theorem make42 (w : World) : (Instr.makeSlice 42 (.int .i64 10) (.int .i64 10)).run Ybaf.prog w = .ok (.slice (some ⟨w.heap.size, 0, none⟩) 10 10) (w.alloc (.cells (Array.replicate 10 (.string ByteArray.empty)) 9)) := by kernel_rfl

/-- The first k of the names lie in block N. -/
def Names (N k : Nat) (w : World) : Prop := ∃ c : Array Value, w.heap[N]? = some (.cells c 9 (0, 0)) ∧ c.size = 10 ∧ ∀ i, i < k → c[i]? = some (.string (nmB i))

theorem Names.cell {N k i : Nat} {w : World} (h : Names N k w) (hi : i < k) : w.cell? ⟨N, i, none⟩ = some (.string (nmB i)) := by
  obtain ⟨c, hh, _, hc⟩ := h
  simp [World.cell?, hh, hc i hi]

theorem Names.step {N k : Nat} {w : World} (h : Names N k w) (hk : k < 10) (ob : Obj) : Names N (k + 1) ((w.setCell ⟨N, k, none⟩ (.string (nmB k))).alloc ob) := by
  obtain ⟨c, hh, hs, hc⟩ := h
  have hlt := lt_of_block hh
  refine ⟨c.setIfInBounds k (.string (nmB k)), ?_, by simpa using hs, fun i hi => ?_⟩
  · have h' : w.heap[N] = .cells c 9 (0, 0) := by simpa [Array.getElem?_eq_getElem hlt] using hh
    rw [Below.heap_alloc _ _ _ (by show N < (w.heap.modify N _).size; simpa using hlt)]
    show (w.heap.modify N _)[N]? = _
    rw [Array.getElem?_eq_getElem (by simpa using hlt), Array.getElem_modify_self, h']
    rfl
  · by_cases e : i = k
    · subst e; simp [hs, hk]
    · rw [Array.getElem?_setIfInBounds_ne (by omega)]; exact hc i (by omega)

theorem Names.later {N k : Nat} {w W : World} (h : Names N k w) (hb : Below w.heap.size w W) : Names N k W := by
  obtain ⟨c, hh, hs, hc⟩ := h
  exact ⟨c, (hb.block N (lt_of_block hh)).trans hh, hs, hc⟩

theorem join_any (N : Nat) (w : World) (h : Names N 10 w) :
    Calls Ybaf.prog 13 #[.slice (some ⟨N, 0, none⟩) 9 10, .string ⟨#[44, 32]⟩] w fun e w' => ∃ s, e = .returned (.string s) ∧ Below w.heap.size w w' := by
  have hl : (Lib.join ([nmB 0, nmB 1, nmB 2, nmB 3, nmB 4, nmB 5, nmB 6, nmB 7, nmB 8].map (·.data.toList)) (⟨#[44, 32]⟩ : ByteArray).data.toList).length ≤ 140737488355328 := by decide
  have hlt : N < w.heap.size := by obtain ⟨c, hh, _⟩ := h; exact lt_of_block hh
  refine (Ybaf.strings_Join N 0 10 [nmB 0, nmB 1, nmB 2, nmB 3, nmB 4, nmB 5, nmB 6, nmB 7, nmB 8] ⟨#[44, 32]⟩ w (fun j x hx => ?_) hlt (by decide) (by decide) hl).mono ?_
  · have hj : j < 9 := (List.getElem?_eq_some_iff.1 hx).1
    rw [Nat.zero_add, h.cell (by omega)]
    match j, hj with
    | 0, _ | 1, _ | 2, _ | 3, _ | 4, _ | 5, _ | 6, _ | 7, _ | 8, _ => simp at hx; rw [hx]
  · rintro e w' ⟨he, hb⟩
    exact ⟨_, he, hb⟩

theorem errorf_ex (F : Interp) (ta : Option Addr) (tn tc : Nat) (j l : ByteArray) (blk : Nat) (w : World) (hF : F.answers w.tape)
    (c0 : w.cell? ⟨blk, 0, none⟩ = some (.iface 28 (.slice ta tn tc))) (c1 : w.cell? ⟨blk, 1, none⟩ = some (.iface 9 (.string j))) (c2 : w.cell? ⟨blk, 2, none⟩ = some (.iface 9 (.string l)))
    (hop : ∃ s1 v1, (FmtStop.operand "fmt.errorf" true 113 false (.iface 28 (.slice ta tn tc))).run Ybaf.prog w = .ok (s1, v1) w) :
    Calls Ybaf.prog 12 #[.string ⟨#[117, 110, 107, 110, 111, 119, 110, 32, 102, 117, 110, 99, 116, 105, 111, 110, 32, 37, 113, 58, 32, 109, 117, 115, 116, 32, 98, 101, 32, 37, 115, 32, 111, 114, 32, 37, 115]⟩, .slice (some ⟨blk, 0, none⟩) 3 3] w fun e w' => ∃ t x, e = .returned (.iface t x) ∧ Below w.heap.size w w' := by
  obtain ⟨s1, v1, h⟩ := hop
  exact errorf_any F ta tn tc j l blk w hF s1 v1 c0 c1 c2 h

theorem blk3 (w : World) (a b c : Value) (t : TypeId) : (w.alloc (.cells #[a, b, c] t)).cell? ⟨w.heap.size, 0, none⟩ = some a ∧ (w.alloc (.cells #[a, b, c] t)).cell? ⟨w.heap.size, 1, none⟩ = some b ∧ (w.alloc (.cells #[a, b, c] t)).cell? ⟨w.heap.size, 2, none⟩ = some c :=
  ⟨by rw [World.cell?_alloc_new]; rfl, by rw [World.cell?_alloc_new]; rfl, by rw [World.cell?_alloc_new]; rfl⟩

set_option maxHeartbeats 400000 in
theorem unm_missing (F : Interp) (o : Nat → Int) (fb : Nat) (ta : Option Addr) (xs : List Int) (tc : Nat) (t : ByteArray) (w : World) (hF : F.answers w.tape) (htab : TabBlk o w) (ht : TextIs w ta xs.length tc t) (hno : ∀ i, i < 10 → nmB i ≠ t)
    (hop : ∀ W, Below w.heap.size w W → ∃ s v, (FmtStop.operand "fmt.errorf" true 113 false (.iface 28 (.slice ta xs.length tc))).run Ybaf.prog W = .ok (s, v) W) :
    Calls Ybaf.prog 7 #[.pointer (some ⟨fb, 0, none⟩), .slice ta xs.length tc] w fun e w' => ∃ u x, e = .returned (.iface u x) ∧ Below w.heap.size w w' := by
  have hb0 : Below w.heap.size w (w.alloc (.cells #[.slice ta xs.length tc] 28)) := (Below.refl _ _).alloc (Nat.le_refl _) _
  have HIX := hide (indexFunc_any w.heap.size ta xs.length tc t (w.alloc (.cells #[.slice ta xs.length tc] 28)) (htab.tab.later hb0) (by simp [World.cell?_alloc_new]) (ht.later hb0))
  have HB0 := hide hb0
  have HTB := hide htab
  have HOP := hide hop
  have HF := hide hF
  have HBX : Hid ((w.alloc (.cells #[.slice ta xs.length tc] 28)).cell? ⟨w.heap.size, 0, none⟩ = some (.slice ta xs.length tc)) := by rw [World.cell?_alloc_new]; rfl
  generalize xs.length = tn at *
  clear htab ht hb0 hop hF
  go_enter Ybaf.func7, Ybaf.ntmps7
  go_wp2_with fail
  refine HIX.out.mono ?_
  rintro e w1 ⟨r, rfl, hb1, hr⟩
  have hri : r = -1 := by
    rcases hr with ⟨j, hj, _, hji⟩ | ⟨h, _⟩
    · exact absurd hji (hno j hj)
    · exact h
  subst hri
  have hB : Below w.heap.size w w1 := HB0.out.trans (hb1.mono (by simp))
  have cb : w1.cell? ⟨w.heap.size, 0, none⟩ = some (.slice ta tn tc) := (hb1.cell (p := ⟨w.heap.size, 0, none⟩) (by simp)).trans HBX.out
  have lw : w.heap.size < w1.heap.size := World.block_lt_of_cell? w1 _ cb
  have HBB := hide hB
  have HCB := hide cb
  clear hr hb1 HIX hB hno cb HBX HB0
  have hmk := make42
  obtain ⟨tt, fr, hg1⟩ := (HTB.out.later HBB.out)
  have hg2 : (w1.alloc (.cells (Array.replicate 10 (.string ByteArray.empty)) 9)).heap[0]? = some (.cells (tabA o) tt fr) := (Below.heap_alloc _ _ _ (lt_of_block hg1)).trans hg1
  clear hg1
  go_wp2_with (refine wpList_load_row rfl 40 _ rfl 0 rfl tt _ fr _ hg2 Ybaf.underlying40 rfl (size40 o) ?_)
  have hn0 : Names w1.heap.size 0 (w1.alloc (.cells (Array.replicate 10 (.string ByteArray.empty)) 9)) := ⟨_, heap_alloc_new _ _, by simp, fun i hi => absurd hi (Nat.not_lt_zero _)⟩
  have hz0 : Below w1.heap.size w1 (w1.alloc (.cells (Array.replicate 10 (.string ByteArray.empty)) 9)) := (Below.refl _ _).alloc (Nat.le_refl _) _
  have HN0 := hide hn0
  have HZ0 := hide hz0
  clear hg2 hn0 hz0
  go_loopw [17] (fun i wr => ∃ k : Nat, k ≤ 10 ∧ i = .int .i64 k ∧ Names w1.heap.size k wr ∧ Below w1.heap.size w1 wr) (fun i _ => 10 - (intOf i).toNat)
  case atStart => exact ⟨0, Nat.zero_le _, rfl, HN0.out, HZ0.out⟩
  case round =>
    obtain ⟨k, hk, rfl, hnk, hbk⟩ := hrel
    by_cases hlt : k < 10
    · have hli : (k : Int) < 10 := by omega
      have hix := idx40 o k hlt
      obtain ⟨c, hh, hs, _⟩ := id hnk
      have lN : w1.heap.size < wr.heap.size := lt_of_block hh
      obtain ⟨v0, hv0⟩ : ∃ v, c[k]? = some v := ⟨_, Array.getElem?_eq_getElem (by omega)⟩
      have cN : wr.cell? ⟨w1.heap.size, k, none⟩ = some v0 := by simp [World.cell?, hh, hv0]
      have zN : wr.frozen? ⟨w1.heap.size, k, none⟩ = false := by simp [World.frozen?, hh]
      have HNK := hide hnk
      have HBK := hide hbk
      clear hh hs hv0 hnk hbk
      go_wp2
      go_roundw
      case rel => exact ⟨k + 1, by omega, by go_num, HNK.out.step hlt _, (HBK.out.setCell (p := ⟨w1.heap.size, k, none⟩) (Nat.le_refl _) _).alloc (by simp; omega) _⟩
      case measure => simp [intOf]; omega
    · obtain rfl : k = 10 := by omega
      have cB : wr.cell? ⟨w.heap.size, 0, none⟩ = some (.slice ta tn tc) := (hbk.cell (p := ⟨w.heap.size, 0, none⟩) lw).trans HCB.out
      have c9 : wr.cell? ⟨w1.heap.size, 9, none⟩ = some (.string (nmB 9)) := hnk.cell (by omega)
      have l1 : w.heap.size < wr.heap.size := World.block_lt_of_cell? wr _ cB
      have l2 : w1.heap.size < wr.heap.size := World.block_lt_of_cell? wr _ c9
      have hJ : ∀ W, Below wr.heap.size wr W → Names w1.heap.size 10 W := fun W hW => hnk.later hW
      have HJ := hide hJ
      have hFx : ∀ W, Below wr.heap.size wr W → F.answers W.tape := fun W hW => by rw [hW.tape, hbk.tape, HBB.out.tape]; exact HF.out
      have HFX := hide hFx
      have hbw : Below w.heap.size w wr := HBB.out.trans (hbk.mono (Nat.le_of_lt lw))
      have HBW := hide hbw
      have HNK := hide hnk
      have HBK := hide hbk
      have hopx : ∀ W, Below wr.heap.size wr W → ∃ s v, (FmtStop.operand "fmt.errorf" true 113 false (.iface 28 (.slice ta tn tc))).run Ybaf.prog W = .ok (s, v) W := fun W hW => HOP.out W (hbw.trans (hW.mono (Nat.le_of_lt l1)))
      have HOX := hide hopx
      clear hnk hbk hJ hbw hopx hFx
      go_wp2
      go_region_held3 (fun W => Below wr.heap.size wr W ∧ W.cell? ⟨w.heap.size, 0, none⟩ = some (.slice ta tn tc) ∧ W.cell? ⟨w1.heap.size, 9, none⟩ = some (.string (nmB 9)))
        (first
          | exact ⟨(Below.refl _ _).drew, cB, c9⟩
          | exact ⟨hq4, (hq4.cell (p := ⟨w.heap.size, 0, none⟩) l1).trans cB, (hq4.cell (p := ⟨w1.heap.size, 9, none⟩) l2).trans c9⟩
          | exact ⟨hq3.alloc hq3.size _, ((hq3.alloc hq3.size _).cell (p := ⟨w.heap.size, 0, none⟩) l1).trans cB, ((hq3.alloc hq3.size _).cell (p := ⟨w1.heap.size, 9, none⟩) l2).trans c9⟩
          | exact ⟨hq3, (hq3.cell (p := ⟨w.heap.size, 0, none⟩) l1).trans cB, (hq3.cell (p := ⟨w1.heap.size, 9, none⟩) l2).trans c9⟩)
        (first
          | (go_at_call 13; refine (join_any w1.heap.size _ (by exact HJ.out _ (Below.refl _ _).drew)).mono ?_; rintro e w3 ⟨sj, rfl, hb3⟩; have hq3 : Below wr.heap.size wr w3 := ((Below.refl _ wr).drew).trans hb3)
          | (go_at_call 12; refine (errorf_ex F ta tn tc sj (nmB 9) w3.heap.size _ (by exact HFX.out _ (hq3.alloc hq3.size _)) (by exact (blk3 _ _ _ _ _).1) (by exact (blk3 _ _ _ _ _).2.1) (by exact (blk3 _ _ _ _ _).2.2) (by exact HOX.out _ (hq3.alloc hq3.size _))).mono ?_; rintro e w4 ⟨u, x, rfl, hb4⟩; have hq4 : Below wr.heap.size wr w4 := (hq3.alloc hq3.size _).trans (hb4.mono (hq3.alloc hq3.size _).size)))
      go_wp2
      go_ret
      exact ⟨u, x, rfl, HBW.out.trans (hq4.mono (Nat.le_of_lt l1))⟩
end Go.Proofs.YbulkkaaFmt
