import Derived.Test.YbulkkewC
namespace Go.Proofs.Ybulkkew
open Go.RowKit

/-- What the fields hold when the names D have been met. -/
def Xs (D : List ByteArray) (f : Nat) : List Value := match f with
  | 2 => D.map Value.string
  | 5 => List.replicate D.length (.bool false)
  | 7 => List.replicate D.length (.int .i64 0)
  | 8 => D.flatMap fun s => (wrA s).toList
  | _ => List.replicate D.length (.int .i32 (-1))
def Ns (D : List ByteArray) (_ : Nat) : Nat := D.length

theorem St.congr {w : World} {base B m : Nat} {v6 : Value} {E : List ByteArray} {X X' : Nat → List Value} {N N' : Nat → Nat} {M : List ByteArray} (h : St w base B m v6 E X N M) (hc : ∀ f, Fld f → X f = X' f ∧ N f = N' f) : St w base B m v6 E X' N' M := by
  obtain ⟨C, V, h1, h2, h3, h4, h5, h6, r⟩ := h
  exact ⟨C, V, h1, h2, h3, h4, h5, fun f hf => ⟨(h6 f hf).1, by rw [← (hc f hf).1, ← (hc f hf).2]; exact (h6 f hf).2⟩, r⟩

theorem grown_alloc {w w2 : World} {ob : Obj} {row : Option Nat} (h : (w.alloc ob).grownBy w2 row) : w.grownBy w2 row :=
  ⟨h.os, h.tape, h.output, Nat.le_trans (by simp) h.size, fun k hk hr => (h.block k (by simp; omega) hr).trans (heap_alloc_old w ob hk)⟩

/-- A field, opened: its row; and what stands when it has been appended to and written. -/
theorem St.field {w : World} {base B m : Nat} {v6 : Value} {E : List ByteArray} {X : Nat → List Value} {N : Nat → Nat} {M : List ByteArray} (h : St w base B m v6 E X N M) {f : Nat} (hf : Fld f) :
    ∃ vf, w.cell? ⟨B, f, none⟩ = some vf ∧ w.ownsRow base (ety f) (esz f) vf (N f) (X f) ∧ B < w.heap.size ∧
      ∀ (w2 : World) (ob : Obj) (g n' cap' : Nat) (x' : List Value), (w.alloc ob).grownBy w2 vf.ownBlock → w2.ownsRow base (ety f) (esz f) (.slice (some ⟨g, 0, none⟩) n' cap') n' x' → (vf.ownBlock = some g ∨ g = w.heap.size + 1) →
        w2.cell? ⟨B, f, none⟩ = some vf ∧ w2.frozen? ⟨B, f, none⟩ = false ∧ Hid (St (w2.setCell ⟨B, f, none⟩ (.slice (some ⟨g, 0, none⟩) n' cap')) base B m v6 E (upd X f x') (upd N f n') M) ∧
        Hid (∀ w0, Below base w0 w → Below base w0 (w2.setCell ⟨B, f, none⟩ (.slice (some ⟨g, 0, none⟩) n' cap'))) := by
  obtain ⟨C, V, h1, h2, h3, h4, h5, h6, h7, h8, h9, h10⟩ := h
  have lB := lt_of_block h1
  refine ⟨V f, by simp [World.cell?, h1, (h6 f hf).1], (h6 f hf).2, lB, ?_⟩
  intro w2 ob g n' cap' x' hgr hown hat
  have hg := grown_alloc hgr
  have hB' : w2.heap[B]? = some (.cells C 48 (0, 0)) := by rw [hg.block B lB (fun e => row_not_cells (h6 f hf).2 h1 (ety_48 hf) e.symm)]; exact h1
  refine ⟨by simp [World.cell?, hB', (h6 f hf).1], by simp [World.frozen?, hB'], hide (put_field h1 h2 h3 h4 h5 h6 h7 h8 h9 h10 hf hg hown (hat.imp id (fun e => by omega))), fun w0 hb => ?_⟩
  exact (hb.grown hg (Nat.le_trans h2 (Nat.le_of_lt lB)) (fun k hk => ((h6 f hf).2.lt k hk).1)).setCell h2 _

theorem St.mapCell {w : World} {base B m : Nat} {v6 : Value} {E : List ByteArray} {X : Nat → List Value} {N : Nat → Nat} {M : List ByteArray} (h : St w base B m v6 E X N M) : w.cell? ⟨B, 3, none⟩ = some (.map (some m)) ∧ MapOk w m M ∧ base ≤ m ∧ B < w.heap.size := by
  obtain ⟨C, V, h1, h2, h3, h4, h5, h6, h7, h8, h9, h10⟩ := h
  exact ⟨by simp [World.cell?, h1, h3], h7, h8, lt_of_block h1⟩

theorem row_slice {w : World} {base : Nat} {e : TypeId} {s : Nat} {v : Value} {n : Nat} {x : List Value} (h : w.ownsRow base e s v n x) : ∃ a c, v = .slice a n c := by
  rcases h.2 with ⟨rfl, rfl⟩ | ⟨g, cap, cur, rfl, _⟩
  · exact ⟨_, _, rfl⟩
  · exact ⟨_, _, rfl⟩

set_option maxHeartbeats 400000 in
theorem process_old {w : World} {base B m : Nat} {v6 : Value} {E D : List ByteArray} {i : Nat} {s : ByteArray} (hst : St w base B m v6 E (Xs D) (Ns D) D) (hi : D[i]? = some s) (hm : s.size ≤ 140737488351232) :
    Calls Yba.prog 6 #[.pointer (some ⟨B, 0, none⟩), .string s] w fun e w' => e = .returned (.int .i32 (i : Int)) ∧ w' = w := by
  obtain ⟨c3, hmap, _⟩ := hst.mapCell
  have hlk := hmap.found hi (by unfold maxLen; omega)
  clear hst hmap hi
  go_enter Yba.func6, Yba.ntmps6
  go_wp2
  go_ret
  exact ⟨rfl, rfl⟩

theorem inf9 : ∃ i, Yba.prog.info? 9 = some i ∧ i.zero = some (.string ByteArray.empty) ∧ i.size = 1 ∧ i.bytes = 16 := info_parts (by kernel_rfl)
theorem inf4 : ∃ i, Yba.prog.info? 4 = some i ∧ i.zero = some (.bool false) ∧ i.size = 1 ∧ i.bytes = 1 := info_parts (by kernel_rfl)
theorem inf3 : ∃ i, Yba.prog.info? 3 = some i ∧ i.zero = some (.int .i64 0) ∧ i.size = 1 ∧ i.bytes = 8 := info_parts (by kernel_rfl)
theorem inf21 : ∃ i, Yba.prog.info? 21 = some i ∧ i.zero = some (.int .i32 0) ∧ i.size = 1 ∧ i.bytes = 4 := info_parts (by kernel_rfl)
theorem inf52 : ∃ i, Yba.prog.info? 52 = some i ∧ i.zero = some (.agg #[.string ByteArray.empty, .int .u64 0, .int .u64 0]) ∧ i.size = 3 ∧ i.bytes = 32 := info_parts (by kernel_rfl)

theorem one_cell {v : Value} (h : v.oneCell' = true) : ∀ x ∈ [v], x.oneCell' = true := fun x hx => by simp at hx; subst hx; exact h

theorem wr_parts (s : ByteArray) : ∃ (x : ByteArray) (y z : Int), wrA s = #[.string x, .int .u64 y, .int .u64 z] := by
  unfold wrA
  split
  · exact ⟨_, _, _, rfl⟩
  · split
    · exact ⟨_, _, _, rfl⟩
    · exact ⟨_, _, _, rfl⟩

theorem written_at {s x : ByteArray} {y z : Int} (h : wrA s = #[.string x, .int .u64 y, .int .u64 z]) (hm : s.size ≤ 140737488351232) (w : World) :
    Calls Yba.prog 7 #[.string s] w fun e w' => e = .returned (.agg #[.string x, .int .u64 y, .int .u64 z]) ∧ Hid (Below w.heap.size w w') := by
  rw [← h]; exact written_any s w hm

theorem three_one (x : ByteArray) (y z : Int) : ∀ u ∈ [Value.string x, .int .u64 y, .int .u64 z], u.oneCell' = true := fun u hu => by
  simp at hu
  rcases hu with rfl | rfl | rfl <;> rfl

theorem ends_as {w : World} {base B m : Nat} {v6 : Value} {E D : List ByteArray} {s x0 : ByteArray} {y0 z0 : Int} {M : List ByteArray} (hw : wrA s = #[.string x0, .int .u64 y0, .int .u64 z0])
    (h : St w base B m v6 E (upd (upd (upd (upd (upd (Xs D) 2 (Xs D 2 ++ [.string s])) 5 (Xs D 5 ++ [.bool false])) 7 (Xs D 7 ++ [.int .i64 0])) 8 (Xs D 8 ++ [.string x0, .int .u64 y0, .int .u64 z0])) 9 (Xs D 9 ++ [.int .i32 (-1)]))
      (upd (upd (upd (upd (upd (Ns D) 2 (D.length + 1)) 5 (D.length + 1)) 7 (D.length + 1)) 8 (D.length + 1)) 9 (D.length + 1)) M) : St w base B m v6 E (Xs (D ++ [s])) (Ns (D ++ [s])) M := by
  refine h.congr fun f hf => ?_
  rcases hf with rfl | rfl | rfl | rfl | rfl
  · simp [upd, Xs, Ns]
  · simp [upd, Xs, Ns, List.replicate_succ']
  · simp [upd, Xs, Ns, List.replicate_succ']
  · simp [upd, Xs, Ns, hw]
  · simp [upd, Xs, Ns, List.replicate_succ']

set_option maxHeartbeats 1000000 in
theorem process_new {w : World} {base B m : Nat} {v6 : Value} {E D : List ByteArray} {s : ByteArray} (hst : St w base B m v6 E (Xs D) (Ns D) D) (hs : s ∉ D) (hm : s.size ≤ 140737488351232) (hl : D.length ≤ 1024) (hbase : base ≤ w.heap.size) :
    Calls Yba.prog 6 #[.pointer (some ⟨B, 0, none⟩), .string s] w fun e w' => e = .returned (.int .i32 (D.length : Int)) ∧ Hid (St w' base B m v6 E (Xs (D ++ [s])) (Ns (D ++ [s])) (D ++ [s])) ∧ Hid (Below base w w') := by
  obtain ⟨c3, hmap, hbm, lB⟩ := hst.mapCell
  obtain ⟨c, hlk⟩ := hmap.missing hs (by unfold maxLen; omega)
  obtain ⟨w1, hput, hmap1, hg1⟩ := hmap.put hs (by unfold maxLen; omega) (by omega)
  have hst1 := hide (hst.mapped hg1.out hmap1.out)
  have hb1 : Hid (Below base w w1) := (Below.refl _ _).grown hg1.out hbase (fun k hk => by cases hk; exact hbm)
  have hs1 := hg1.out.size
  obtain ⟨v2, k2, r2, _⟩ := hst.field (f := 2) (.inl rfl)
  obtain ⟨a2, cc2, rfl⟩ := row_slice r2
  have hN : Ns D 2 = D.length := rfl
  rw [hN] at k2
  clear hst hmap hmap1 hg1 r2 hs
  go_enter Yba.func6, Yba.ntmps6
  go_upto_region 5 with fail
  clear c3 lB hlk k2 hput hs1
  obtain ⟨vA, cA, rA, lA, contA⟩ := hst1.out.field (f := 2) (.inl rfl)
  have hcontA := hide contA
  clear contA
  have rA : w1.ownsRow base 9 1 vA D.length (Xs D 2) := rA
  have bkA : base ≤ w1.heap.size := Nat.le_trans hbase hb1.out.size
  obtain ⟨iA, hiA, hzA, hyA, hwA⟩ := inf9
  have HIA := hide hiA
  have HZA := hide hzA
  clear hiA hzA
  go_upto_region 6 with (at_builtin; refine wpList_append_lies _ rfl (.tmp 34) (.tmp 36) 22 rfl base 9 iA (.string ByteArray.empty) 1 16 Yba.underlying22 HIA.out HZA.out hyA hwA rfl (by decide) vA D.length (Xs D 2) rfl (rA.alloc _) ⟨w1.heap.size, 0, none⟩ 1 1 [.string s] rfl rfl (cell_one_new _ _ _) (one_cell rfl) (by omega) (by unfold maxLen; omega) (by omega) (by simp; omega) (w1.heap.size + 1) (by simp) ?_; intro gA capA waA hownA hgrowA hatA hltA; obtain ⟨dA, zA, stA, blA⟩ := hcontA.out waA _ gA _ capA _ hgrowA hownA hatA)
  obtain ⟨wnA, hwnA⟩ : ∃ wn, wn = waA.setCell ⟨B, 2, none⟩ (.slice (some ⟨gA, 0, none⟩) (D.length + 1) capA) := ⟨_, rfl⟩
  rw [← hwnA] at stA blA ⊢
  have bnA := hide (blA.out w hb1.out)
  clear hwnA dA zA blA hownA hgrowA hatA hltA cA rA hcontA HIA HZA hyA hwA bkA lA
  obtain ⟨vB, cB, rB, lB, contB⟩ := stA.out.field (f := 5) (.inr (.inl rfl))
  have hcontB := hide contB
  clear contB
  have rB : wnA.ownsRow base 4 1 vB D.length (Xs D 5) := rB
  have bkB : base ≤ wnA.heap.size := Nat.le_trans hbase bnA.out.size
  obtain ⟨iB, hiB, hzB, hyB, hwB⟩ := inf4
  have HIB := hide hiB
  have HZB := hide hzB
  clear hiB hzB
  go_upto_region 7 with (at_builtin; refine wpList_append_lies _ rfl (.tmp 44) (.tmp 45) 31 rfl base 4 iB (.bool false) 1 1 Yba.underlying31 HIB.out HZB.out hyB hwB rfl (by decide) vB D.length (Xs D 5) rfl (rB.alloc _) ⟨wnA.heap.size, 0, none⟩ 1 1 [.bool false] rfl rfl (cell_one_new _ _ _) (one_cell rfl) (by omega) (by unfold maxLen; omega) (by omega) (by simp; omega) (wnA.heap.size + 1) (by simp) ?_; intro gB capB waB hownB hgrowB hatB hltB; obtain ⟨dB, zB, stB, blB⟩ := hcontB.out waB _ gB _ capB _ hgrowB hownB hatB)
  obtain ⟨wnB, hwnB⟩ : ∃ wn, wn = waB.setCell ⟨B, 5, none⟩ (.slice (some ⟨gB, 0, none⟩) (D.length + 1) capB) := ⟨_, rfl⟩
  rw [← hwnB] at stB blB ⊢
  have bnB := hide (blB.out w bnA.out)
  clear hwnB dB zB blB hownB hgrowB hatB hltB cB rB hcontB HIB HZB hyB hwB bkB lB
  obtain ⟨vC, cC, rC, lC, contC⟩ := stB.out.field (f := 7) (.inr (.inr (.inl rfl)))
  have hcontC := hide contC
  clear contC
  have rC : wnB.ownsRow base 3 1 vC D.length (Xs D 7) := rC
  have bkC : base ≤ wnB.heap.size := Nat.le_trans hbase bnB.out.size
  obtain ⟨iC, hiC, hzC, hyC, hwC⟩ := inf3
  have HIC := hide hiC
  have HZC := hide hzC
  clear hiC hzC
  go_upto_region 8 with (at_builtin; refine wpList_append_lies _ rfl (.tmp 53) (.tmp 54) 33 rfl base 3 iC (.int .i64 0) 1 8 Yba.underlying33 HIC.out HZC.out hyC hwC rfl (by decide) vC D.length (Xs D 7) rfl (rC.alloc _) ⟨wnB.heap.size, 0, none⟩ 1 1 [.int .i64 0] rfl rfl (cell_one_new _ _ _) (one_cell rfl) (by omega) (by unfold maxLen; omega) (by omega) (by simp; omega) (wnB.heap.size + 1) (by simp) ?_; intro gC capC waC hownC hgrowC hatC hltC; obtain ⟨dC, zC, stC, blC⟩ := hcontC.out waC _ gC _ capC _ hgrowC hownC hatC)
  obtain ⟨wnC, hwnC⟩ : ∃ wn, wn = waC.setCell ⟨B, 7, none⟩ (.slice (some ⟨gC, 0, none⟩) (D.length + 1) capC) := ⟨_, rfl⟩
  rw [← hwnC] at stC blC ⊢
  have bnC := hide (blC.out w bnB.out)
  clear hwnC dC zC blC hownC hgrowC hatC hltC cC rC hcontC HIC HZC hyC hwC bkC lC
  obtain ⟨x0, y0, z0, hwr⟩ := wr_parts s
  have HW := hide (written_at hwr hm)
  have HAFT : Hid (∃ v8, wnC.cell? ⟨B, 8, none⟩ = some v8 ∧ ∀ w4, Hid (Below wnC.drew.heap.size wnC.drew w4) → w4.cell? ⟨B, 8, none⟩ = some v8 ∧ w4.ownsRow base 52 3 v8 D.length (Xs D 8) ∧ base ≤ w4.heap.size ∧
      Hid (∀ (w2 : World) (ob : Obj) (g n' cap' : Nat) (x' : List Value), (w4.alloc ob).grownBy w2 v8.ownBlock → w2.ownsRow base 52 3 (.slice (some ⟨g, 0, none⟩) n' cap') n' x' → (v8.ownBlock = some g ∨ g = w4.heap.size + 1) →
        w2.cell? ⟨B, 8, none⟩ = some v8 ∧ w2.frozen? ⟨B, 8, none⟩ = false ∧ Hid (St (w2.setCell ⟨B, 8, none⟩ (.slice (some ⟨g, 0, none⟩) n' cap')) base B m v6 E (upd (upd (upd (upd (Xs D) 2 (Xs D 2 ++ [.string s])) 5 (Xs D 5 ++ [.bool false])) 7 (Xs D 7 ++ [.int .i64 0])) 8 x') (upd (upd (upd (upd (Ns D) 2 (D.length + 1)) 5 (D.length + 1)) 7 (D.length + 1)) 8 n') (D ++ [s])) ∧
        Hid (Below base w (w2.setCell ⟨B, 8, none⟩ (.slice (some ⟨g, 0, none⟩) n' cap'))))) := by
    obtain ⟨v8, c8, _, l8, _⟩ := stC.out.field (f := 8) (.inr (.inr (.inr (.inl rfl))))
    refine ⟨v8, c8, fun w4 hb4 => ?_⟩
    have hb4' : Below wnC.heap.size wnC w4 := (Below.refl _ _).drew.trans hb4.out
    have bw4 : Below base w w4 := bnC.out.trans (hb4'.mono (Nat.le_trans hbase bnC.out.size))
    obtain ⟨v8', c8', r8, l8', cont8⟩ := (stC.out.later hb4').field (f := 8) (.inr (.inr (.inr (.inl rfl))))
    obtain rfl : v8' = v8 := Option.some.inj (c8'.symm.trans ((hb4'.cell (p := ⟨B, 8, none⟩) l8).trans c8))
    refine ⟨c8', r8, Nat.le_trans hbase bw4.size, fun w2 ob g n' cap' x' h1 h2 h3 => ?_⟩
    obtain ⟨a1, a2, a3, a4⟩ := cont8 w2 ob g n' cap' x' h1 h2 h3
    exact ⟨a1, a2, a3, hide (a4.out w bw4)⟩
  obtain ⟨v8, c8, hafter⟩ := HAFT.out
  have HAF := hide hafter
  clear HAFT hafter
  obtain ⟨i0, hi0, hz0, hy0, hw0⟩ := inf52
  have HI0 := hide hi0
  have HZ0 := hide hz0
  have HWR := hide hwr
  clear hi0 hz0 hwr
  go_region_law (first
    | (refine step_append_lies _ (by rfl) _ _ _ (by rfl) base 52 i0 _ 3 32 Yba.underlying34 HI0.out HZ0.out hy0 hw0 rfl (by omega) v8 D.length (Xs D 8) (by rfl) (r8.alloc _)
        ⟨w4.heap.size, 0, none⟩ 1 1 [.string x0, .int .u64 y0, .int .u64 z0] (by rfl) (by rfl) (World.news_of_block (cs := #[.string x0, .int .u64 y0, .int .u64 z0]) (t := 52) (fr := (0, 0)) (heap_alloc_new w4 _)) (three_one x0 y0 z0)
        (by omega) (by unfold maxLen; omega) (by omega) (by simp; omega) (w4.heap.size + 1) (by simp) ?_; intro g8 cap8 w5 hown8 hgrow8 hat8 hlt8; obtain ⟨d8, f8, st8, bl8⟩ := cont8.out w5 _ g8 _ cap8 _ hgrow8 hown8 hat8)
    | (go_simp; go_at_call 7; refine (HW.out _).mono ?_; rintro e w4 ⟨rfl, hb4⟩; obtain ⟨c84, r8, b84, cont8⟩ := HAF.out w4 hb4; have l84 : B < w4.heap.size := World.block_lt_of_cell? w4 _ c84))
  all_goals
    obtain ⟨w6, hw6⟩ : ∃ w6, w6 = w5.setCell ⟨B, 8, none⟩ (.slice (some ⟨g8, 0, none⟩) (D.length + 1) cap8) := ⟨_, rfl⟩
    rw [← hw6] at st8 bl8 ⊢
    have st6 := st8
    have b6 := bl8
    clear hw6 st8 bl8 d8 f8 hown8 hgrow8 hat8 hlt8 c84 r8 b84 l84 cont8 hb4 HAF HW HI0 HZ0 c8
    obtain ⟨vF, cF, rF, lF, contF⟩ := st6.out.field (f := 9) (.inr (.inr (.inr (.inr rfl))))
    have hcontF := hide contF
    clear contF
    have rF : w6.ownsRow base 21 1 vF D.length (Xs D 9) := rF
    have bkF : base ≤ w6.heap.size := Nat.le_trans hbase b6.out.size
    obtain ⟨iF, hiF, hzF, hyF, hwF⟩ := inf21
    have HIF := hide hiF
    have HZF := hide hzF
    clear hiF hzF
    go_upto_region 10 with (at_builtin; refine wpList_append_lies _ rfl (.tmp 73) (.tmp 74) 30 rfl base 21 iF (.int .i32 0) 1 4 Yba.underlying30 HIF.out HZF.out hyF hwF rfl (by decide) vF D.length (Xs D 9) rfl (rF.alloc _) ⟨w6.heap.size, 0, none⟩ 1 1 [.int .i32 (-1)] rfl rfl (cell_one_new _ _ _) (one_cell rfl) (by omega) (by unfold maxLen; omega) (by omega) (by simp; omega) (w6.heap.size + 1) (by simp) ?_; intro gF capF waF hownF hgrowF hatF hltF; obtain ⟨dF, zF, stF, blF⟩ := hcontF.out waF _ gF _ capF _ hgrowF hownF hatF)
    obtain ⟨wnF, hwnF⟩ : ∃ wn, wn = waF.setCell ⟨B, 9, none⟩ (.slice (some ⟨gF, 0, none⟩) (D.length + 1) capF) := ⟨_, rfl⟩
    rw [← hwnF] at stF blF ⊢
    have bnF := hide (blF.out w b6.out)
    clear hwnF dF zF blF hownF hgrowF hatF hltF cF rF hcontF HIF HZF hyF hwF bkF lF
    have hend := hide (ends_as HWR.out stF.out)
    go_wp2
    go_ret
    exact ⟨rfl, hend, bnF⟩
end Go.Proofs.Ybulkkew
