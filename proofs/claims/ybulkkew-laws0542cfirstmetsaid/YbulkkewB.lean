import Derived.Test.YbulkkewA
import Derived.Test.YbulkkewShelf
import Derived.Lib.BufferWrite
import Derived.Deep.RegionLaw
import Derived.Deep.RegionWith
import Derived.Deep.DeepCutAuto
namespace Go.Proofs.Ybulkkew
open Go.RowKit

/-- Does the name need an escape? -/
def isBad (s : ByteArray) : Bool := decide (0 ≤ Lib.idxFunc badR true s)
/-- The name as a clock writes it. -/
def txt (s : ByteArray) : ByteArray := (ByteArray.mk #[34] ++ s) ++ ByteArray.mk #[34, 58]
def tb (s : ByteArray) (i : Nat) : UInt8 := (txt s).data.toList.getD i 0
def wd (s : ByteArray) : Int := Lib.leNat [tb s 0, tb s 1, tb s 2, tb s 3, tb s 4, tb s 5, tb s 6, tb s 7]
def mk (n : Nat) : Int := 18446744073709551615 / 2 ^ (64 - 8 * ((n : Int) + 3)).toNat
/-- What written returns. -/
def wrA (s : ByteArray) : Array Value := if isBad s = true then #[.string ⟨#[]⟩, .int .u64 0, .int .u64 0] else if s.size ≤ 5 then #[.string (txt s), .int .u64 (wd s), .int .u64 (mk s.size)] else #[.string (txt s), .int .u64 0, .int .u64 0]

theorem enters9 : ∀ args w, (callFunc 9 args).run Yba.prog w = .ok (.enter 9 args) w := enters_of Yba.func9 (by kernel_rfl) rfl

theorem contains_any (s : ByteArray) (w : World) : Calls Yba.prog 8 #[.string s, .func (.func 9) #[] #[]] w fun e w' => e = .returned (.bool (isBad s)) ∧ Hid (Below w.heap.size w w') :=
  Yba.strings_ContainsFunc 9 #[] enters9 badR s w (fun W x _ => (closure_any x W).mono fun _ _ ⟨he, hw⟩ => ⟨he, 0, hw⟩)

abbrev Z52 : Obj := .cells #[.string ⟨#[]⟩, .int .u64 0, .int .u64 0] 52

/-- The result's own block behind a call that turned nothing. -/
theorem own3 {w w1 : World} {a b c : Value} (hb : Below (w.alloc (.cells #[a, b, c] 52)).heap.size (w.alloc (.cells #[a, b, c] 52)) w1) :
    (w1.cell? ⟨w.heap.size, 0, none⟩ = some a ∧ w1.cell? ⟨w.heap.size, 1, none⟩ = some b ∧ w1.cell? ⟨w.heap.size, 2, none⟩ = some c) ∧
    (w1.frozen? ⟨w.heap.size, 0, none⟩ = false ∧ w1.frozen? ⟨w.heap.size, 1, none⟩ = false ∧ w1.frozen? ⟨w.heap.size, 2, none⟩ = false) ∧ w.heap.size < w1.heap.size ∧ Below w.heap.size w w1 := by
  have hs := hb.size
  have hlt : w.heap.size < (w.alloc (.cells #[a, b, c] 52)).heap.size := by simp
  have hblk := hb.block w.heap.size hlt
  rw [heap_alloc_new] at hblk
  refine ⟨⟨?_, ?_, ?_⟩, ⟨?_, ?_, ?_⟩, by omega, ((Below.refl _ _).alloc (Nat.le_refl _) _).trans (hb.mono (Nat.le_of_lt hlt))⟩
  · simp [World.cell?, hblk]
  · simp [World.cell?, hblk]
  · simp [World.cell?, hblk]
  · simp [World.frozen?, hblk]
  · simp [World.frozen?, hblk]
  · simp [World.frozen?, hblk]

theorem set3 {w w1 : World} {b : Nat} {a0 b0 c0 : Value} (h0 : w1.cell? ⟨b, 0, none⟩ = some a0) (h1 : w1.cell? ⟨b, 1, none⟩ = some b0) (h2 : w1.cell? ⟨b, 2, none⟩ = some c0) (hb : Below b w w1) {x y z : Value} :
    ((((w1.setCell ⟨b, 0, none⟩ x).setCell ⟨b, 1, none⟩ y).setCell ⟨b, 2, none⟩ z).cell? ⟨b, 0, none⟩ = some x ∧ (((w1.setCell ⟨b, 0, none⟩ x).setCell ⟨b, 1, none⟩ y).setCell ⟨b, 2, none⟩ z).cell? ⟨b, 1, none⟩ = some y ∧
      (((w1.setCell ⟨b, 0, none⟩ x).setCell ⟨b, 1, none⟩ y).setCell ⟨b, 2, none⟩ z).cell? ⟨b, 2, none⟩ = some z) ∧ Below b w (((w1.setCell ⟨b, 0, none⟩ x).setCell ⟨b, 1, none⟩ y).setCell ⟨b, 2, none⟩ z) := by
  refine ⟨⟨?_, ?_, ?_⟩, ((hb.setCell (Nat.le_refl _) _).setCell (Nat.le_refl _) _).setCell (Nat.le_refl _) _⟩
  · rw [World.cell?_setCell_other _ _ _ _ (by simp), World.cell?_setCell_other _ _ _ _ (by simp), World.cell?_setCell_same _ _ _ h0]
  · rw [World.cell?_setCell_other _ _ _ _ (by simp)]
    exact World.cell?_setCell_same _ _ _ (by rw [World.cell?_setCell_other _ _ _ _ (by simp)]; exact h1)
  · exact World.cell?_setCell_same _ _ _ (by rw [World.cell?_setCell_other _ _ _ _ (by simp), World.cell?_setCell_other _ _ _ _ (by simp)]; exact h2)

set_option maxHeartbeats 400000 in
theorem written_bad (s : ByteArray) (w : World) (hb : isBad s = true) : Calls Yba.prog 7 #[.string s] w fun e w' => e = .returned (.agg (wrA s)) ∧ Hid (Below w.heap.size w w') := by
  have he : wrA s = #[.string ⟨#[]⟩, .int .u64 0, .int .u64 0] := by simp [wrA, hb]
  have HE := hide he
  clear he
  go_enter Yba.func7, Yba.ntmps7
  go_wp2_with fail
  refine (contains_any s _).mono ?_
  rintro e w1 ⟨rfl, hb1⟩
  obtain ⟨⟨c0, c1, c2⟩, ⟨f0, f1, f2⟩, lt1, hb1'⟩ := own3 hb1.out
  have HB1 := hide hb1'
  clear hb1 hb1'
  go_wp2
  obtain ⟨⟨k0, k1, k2⟩, kb⟩ := set3 c0 c1 c2 HB1.out (x := .string ⟨#[]⟩) (y := .int .u64 0) (z := .int .u64 0)
  obtain ⟨W, hW⟩ : ∃ W, W = ((w1.setCell ⟨w.heap.size, 0, none⟩ (.string ⟨#[]⟩)).setCell ⟨w.heap.size, 1, none⟩ (.int .u64 0)).setCell ⟨w.heap.size, 2, none⟩ (.int .u64 0) := ⟨_, rfl⟩
  rw [← hW] at k0 k1 k2 kb ⊢
  exact bodyPost_ret (v := .agg #[.string ⟨#[]⟩, .int .u64 0, .int .u64 0]) (by simp [results, Yba.results7, go_sem, k0, k1, k2]) rfl ⟨by rw [HE.out], hide kb⟩
theorem set3a {w w1 : World} {b : Nat} {a0 b0 c0 : Value} (h0 : w1.cell? ⟨b, 0, none⟩ = some a0) (h1 : w1.cell? ⟨b, 1, none⟩ = some b0) (h2 : w1.cell? ⟨b, 2, none⟩ = some c0) (hb : Below b w w1) (hlt : b < w1.heap.size) {x y z : Value} (ob : Obj) :
    (((((w1.setCell ⟨b, 0, none⟩ x).setCell ⟨b, 1, none⟩ y).setCell ⟨b, 2, none⟩ z).alloc ob).cell? ⟨b, 0, none⟩ = some x ∧ ((((w1.setCell ⟨b, 0, none⟩ x).setCell ⟨b, 1, none⟩ y).setCell ⟨b, 2, none⟩ z).alloc ob).cell? ⟨b, 1, none⟩ = some y ∧
      ((((w1.setCell ⟨b, 0, none⟩ x).setCell ⟨b, 1, none⟩ y).setCell ⟨b, 2, none⟩ z).alloc ob).cell? ⟨b, 2, none⟩ = some z) ∧ Below b w ((((w1.setCell ⟨b, 0, none⟩ x).setCell ⟨b, 1, none⟩ y).setCell ⟨b, 2, none⟩ z).alloc ob) := by
  obtain ⟨⟨k0, k1, k2⟩, kb⟩ := set3 h0 h1 h2 hb (x := x) (y := y) (z := z)
  have hsz := (((Below.refl b w1).setCell (p := ⟨b, 0, none⟩) (Nat.le_refl _) x).setCell (p := ⟨b, 1, none⟩) (Nat.le_refl _) y).setCell (p := ⟨b, 2, none⟩) (Nat.le_refl _) z |>.size
  exact ⟨⟨(World.cell?_alloc_lt _ _ _ (by show b < _; omega)).trans k0, (World.cell?_alloc_lt _ _ _ (by show b < _; omega)).trans k1, (World.cell?_alloc_lt _ _ _ (by show b < _; omega)).trans k2⟩, kb.alloc (by omega) _⟩

theorem txt_size (s : ByteArray) : (txt s).size = s.size + 3 := by
  have h1 : (ByteArray.mk #[34]).size = 1 := rfl
  have h2 : (ByteArray.mk #[34, 58]).size = 2 := rfl
  simp only [txt, ByteArray.size_append, h1, h2]
  omega
theorem add1 (s : ByteArray) (hm : s.size ≤ 140737488351232) (W : World) : (Op.stringOp .add (ByteArray.mk #[34]) s).run Yba.prog W = .ok (.string (ByteArray.mk #[34] ++ s)) W :=
  run_string_add_sum (P := Yba.prog) W _ _ (by have h1 : (ByteArray.mk #[34]).size = 1 := rfl; omega)
theorem add2 (s : ByteArray) (hm : s.size ≤ 140737488351232) (W : World) : (Op.stringOp .add (ByteArray.mk #[34] ++ s) (ByteArray.mk #[34, 58])).run Yba.prog W = .ok (.string (txt s)) W :=
  run_string_add_sum (P := Yba.prog) W _ _ (by have h1 : (ByteArray.mk #[34]).size = 1 := rfl; have h2 : (ByteArray.mk #[34, 58]).size = 2 := rfl; rw [ByteArray.size_append]; omega)

set_option maxHeartbeats 400000 in
theorem written_long (s : ByteArray) (w : World) (hb : isBad s = false) (hs : 5 < s.size) (hm : s.size ≤ 140737488351232) : Calls Yba.prog 7 #[.string s] w fun e w' => e = .returned (.agg (wrA s)) ∧ Hid (Below w.heap.size w w') := by
  have he : wrA s = #[.string (txt s), .int .u64 0, .int .u64 0] := by simp [wrA, hb, show ¬ s.size ≤ 5 by omega]
  have ht := txt_size s
  have hadd1 := add1 s hm
  have hadd2 := add2 s hm
  have HE := hide he
  have hlen : ¬ ((txt s).size : Int) ≤ 8 := by omega
  clear he
  go_enter Yba.func7, Yba.ntmps7
  go_wp2_with fail
  refine (contains_any s _).mono ?_
  rintro e w1 ⟨rfl, hb1⟩
  obtain ⟨⟨c0, c1, c2⟩, ⟨f0, f1, f2⟩, lt1, hb1'⟩ := own3 hb1.out
  have HB1 := hide hb1'
  clear hb1 hb1'
  go_wp2
  obtain ⟨⟨k0, k1, k2⟩, kb⟩ := set3a c0 c1 c2 HB1.out lt1 (x := .string (txt s)) (y := .int .u64 0) (z := .int .u64 0) (.cells #[.string (txt s), .int .u64 0, .int .u64 0] 52)
  obtain ⟨W, hW⟩ : ∃ W, W = (((w1.setCell ⟨w.heap.size, 0, none⟩ (.string (txt s))).setCell ⟨w.heap.size, 1, none⟩ (.int .u64 0)).setCell ⟨w.heap.size, 2, none⟩ (.int .u64 0)).alloc (.cells #[.string (txt s), .int .u64 0, .int .u64 0] 52) := ⟨_, rfl⟩
  rw [← hW] at k0 k1 k2 kb ⊢
  exact bodyPost_ret (v := .agg #[.string (txt s), .int .u64 0, .int .u64 0]) (by simp [results, Yba.results7, go_sem, k0, k1, k2]) rfl ⟨by rw [HE.out], hide kb⟩

/-- 'copy(b[:], t)', b an array of eight bytes: one step of a region that draws. -/
theorem step_copy8 {ops : Array Oper} {o : Oper} {a : Act} {w : World} {K : Act → World → Prop} {Q : Exit → Act → World → Prop} {E : Prop} (hg : o.guard = none) (d x : Operand)
    (hop : o.op = Op.call { callee := Callee.builtin Builtin.copy, args := #[d, x], argTypes := #[23, 9] }) (g : Nat) (cur : Array Value) (hgr : w.heap[g]? = some (.cells cur 57 (0, 0))) (hc : cur.size = 8)
    (hd : a.eval d = .slice (some ⟨g, 0, none⟩) 8 8) (t : ByteArray) (hx : a.eval x = .string t) (hle : t.size ≤ 8)
    (hK : ∀ w', Hid (w'.heap[g]? = some (.cells (Lib.byteCells t.data.toList ++ cur.toList.drop t.size).toArray 57 (0, 0))) → Hid (w.grownBy w' (some g)) → K (a.put o.dst (goInt t.size)) w') :
    if Region.wanted o (yielded ops a.tmps) = true then Oper.wp Yba.prog o a w K Q else E := by
  have hw : Region.wanted o (yielded ops a.tmps) = true := by simp [Region.wanted, hg]
  rw [if_pos hw]
  have hrun := Lib.run_copy_row_string (P := Yba.prog) w 23 9 o.type 5 g 0 8 8 t cur 57 Yba.underlying23 (by kernel_rfl) hgr hle (by omega)
  simp only [List.take_zero, List.nil_append, Nat.zero_add] at hrun
  unfold Oper.wp
  simp [execOp, hop, resolve, invoke, builtin, hd, hx, hrun, Result.andThen]
  refine hK _ (show _ = _ from ?_) (show World.grownBy _ _ _ from ?_)
  · simpa using setRow_heap w g cur _ 57 (0, 0) hgr
  · exact ⟨rfl, rfl, rfl, by simp, fun k _ hk => setRow_other w g k _ (fun e => hk (by rw [e]))⟩

theorem grown_old {w w' : World} {g : Nat} (h : w.grownBy w' (some g)) {b o : Nat} {v : Value} (hc : w.cell? ⟨b, o, none⟩ = some v) (hne : b ≠ g) : w'.cell? ⟨b, o, none⟩ = some v := h.cell hc (by simpa using hne)
theorem grown_froz {w w' : World} {g : Nat} (h : w.grownBy w' (some g)) {b o : Nat} {v : Value} (hc : w.cell? ⟨b, o, none⟩ = some v) (hf : w.frozen? ⟨b, o, none⟩ = false) (hne : b ≠ g) : w'.frozen? ⟨b, o, none⟩ = false := by
  rw [← hf]; exact World.frozen?_of_block (h.block b (World.block_lt_of_cell? w ⟨b, o, none⟩ hc) (by simpa using hne))

theorem cell8 {W : World} {g : Nat} {s : ByteArray} (hs : s.size ≤ 5) (h : W.heap[g]? = some (.cells (Lib.byteCells (txt s).data.toList ++ (#[.int .u8 0, .int .u8 0, .int .u8 0, .int .u8 0, .int .u8 0, .int .u8 0, .int .u8 0, .int .u8 0] : Array Value).toList.drop (txt s).size).toArray 57 (0, 0))) (i : Nat) (hi : i < 8) :
    W.cell? ⟨g, i, none⟩ = some (.int .u8 ((tb s i).toNat : Int)) := by
  have ht := txt_size s
  have hl : (txt s).data.toList.length = (txt s).size := Array.length_toList
  simp only [World.cell?, h]
  by_cases hlt : i < (txt s).size
  · have e : (Lib.byteCells (txt s).data.toList)[i]? = some (.int .u8 ((tb s i).toNat : Int)) := by
      have hq : (txt s).data.toList[i]? = some (tb s i) := by
        unfold tb
        rw [List.getD, List.getElem?_eq_getElem (by omega)]
        rfl
      rw [Lib.byteCells, List.getElem?_map, hq]
      rfl
    rw [List.getElem?_toArray, List.getElem?_append_left (by rw [Lib.byteCells_length]; omega)]
    exact e
  · have e : tb s i = 0 := by
      unfold tb
      rw [List.getD, List.getElem?_eq_none (by omega)]
      rfl
    rw [e, List.getElem?_toArray, List.getElem?_append_right (by rw [Lib.byteCells_length]; omega), Lib.byteCells_length, hl, List.getElem?_drop, show (txt s).size + (i - (txt s).size) = i by omega]
    have h8 : i = 0 ∨ i = 1 ∨ i = 2 ∨ i = 3 ∨ i = 4 ∨ i = 5 ∨ i = 6 ∨ i = 7 := by omega
    rcases h8 with rfl | rfl | rfl | rfl | rfl | rfl | rfl | rfl <;> rfl

theorem le_any {W : World} {g : Nat} {s : ByteArray} (hs : s.size ≤ 5) (h : W.heap[g]? = some (.cells (Lib.byteCells (txt s).data.toList ++ (#[.int .u8 0, .int .u8 0, .int .u8 0, .int .u8 0, .int .u8 0, .int .u8 0, .int .u8 0, .int .u8 0] : Array Value).toList.drop (txt s).size).toArray 57 (0, 0))) :
    Calls Yba.prog 10 #[.agg #[], .slice (some ⟨g, 0, none⟩) 8 8] W fun e w' => e = .returned (.int .u64 (wd s)) ∧ Hid (Below W.heap.size W w') :=
  Yba.binary_LE_Uint64 g 0 8 8 (tb s 0) (tb s 1) (tb s 2) (tb s 3) (tb s 4) (tb s 5) (tb s 6) (tb s 7) W (by omega)
    (cell8 hs h 0 (by omega)) (cell8 hs h 1 (by omega)) (cell8 hs h 2 (by omega)) (cell8 hs h 3 (by omega)) (cell8 hs h 4 (by omega)) (cell8 hs h 5 (by omega)) (cell8 hs h 6 (by omega)) (cell8 hs h 7 (by omega))

abbrev Z8 : Array Value := #[.int .u8 0, .int .u8 0, .int .u8 0, .int .u8 0, .int .u8 0, .int .u8 0, .int .u8 0, .int .u8 0]

theorem froz_of {w w' : World} {b o : Nat} {v : Value} (hc : w.cell? ⟨b, o, none⟩ = some v) (h : w'.heap[b]? = w.heap[b]?) : w'.cell? ⟨b, o, none⟩ = some v ∧ (w.frozen? ⟨b, o, none⟩ = false → w'.frozen? ⟨b, o, none⟩ = false) :=
  ⟨(World.cell?_of_block (a := ⟨b, o, none⟩) h).trans hc, fun hf => (World.frozen?_of_block (a := ⟨b, o, none⟩) h).trans hf⟩

theorem three_of {W : World} {g : Nat} {a b c : Value} (h : W.heap[g]? = some (.cells #[a, b, c] 52 (0, 0))) :
    (W.cell? ⟨g, 0, none⟩ = some a ∧ W.cell? ⟨g, 1, none⟩ = some b ∧ W.cell? ⟨g, 2, none⟩ = some c) ∧ (W.frozen? ⟨g, 0, none⟩ = false ∧ W.frozen? ⟨g, 1, none⟩ = false ∧ W.frozen? ⟨g, 2, none⟩ = false) := by
  refine ⟨⟨?_, ?_, ?_⟩, ⟨?_, ?_, ?_⟩⟩ <;> simp [World.cell?, World.frozen?, h]

/-- Two stores into the one block: what stands in it, and in another. -/
theorem two_set {w w4 : World} {T C : Nat} (hne : T ≠ C) (hT : w.heap.size ≤ T) {t x y d0 d1 d2 : Value} {a b : Value} (q0 : w4.cell? ⟨T, 0, none⟩ = some t) (q1 : w4.cell? ⟨T, 1, none⟩ = some a) (q2 : w4.cell? ⟨T, 2, none⟩ = some b)
    (e0 : w4.cell? ⟨C, 0, none⟩ = some d0) (e1 : w4.cell? ⟨C, 1, none⟩ = some d1) (e2 : w4.cell? ⟨C, 2, none⟩ = some d2) (z0 : w4.frozen? ⟨C, 0, none⟩ = false) (z1 : w4.frozen? ⟨C, 1, none⟩ = false) (z2 : w4.frozen? ⟨C, 2, none⟩ = false) (hb : Below w.heap.size w w4) :
    ∃ W5, W5 = (w4.setCell ⟨T, 1, none⟩ x).setCell ⟨T, 2, none⟩ y ∧ W5.cell? ⟨T, 0, none⟩ = some t ∧ W5.cell? ⟨T, 1, none⟩ = some x ∧ W5.cell? ⟨T, 2, none⟩ = some y ∧ W5.cell? ⟨C, 0, none⟩ = some d0 ∧ W5.cell? ⟨C, 1, none⟩ = some d1 ∧ W5.cell? ⟨C, 2, none⟩ = some d2 ∧
      W5.frozen? ⟨C, 0, none⟩ = false ∧ W5.frozen? ⟨C, 1, none⟩ = false ∧ W5.frozen? ⟨C, 2, none⟩ = false ∧ Hid (Below w.heap.size w W5) := by
  have hC : ((w4.setCell ⟨T, 1, none⟩ x).setCell ⟨T, 2, none⟩ y).heap[C]? = w4.heap[C]? := by
    rw [Below.heap_setCell _ _ _ _ (fun e => hne e.symm), Below.heap_setCell _ _ _ _ (fun e => hne e.symm)]
  refine ⟨_, rfl, ?_, ?_, ?_, (froz_of e0 hC).1, (froz_of e1 hC).1, (froz_of e2 hC).1, (froz_of e0 hC).2 z0, (froz_of e1 hC).2 z1, (froz_of e2 hC).2 z2, hide ((hb.setCell (by exact hT) _).setCell (by exact hT) _)⟩
  · rw [World.cell?_setCell_other _ _ _ _ (by simp), World.cell?_setCell_other _ _ _ _ (by simp)]; exact q0
  · rw [World.cell?_setCell_other _ _ _ _ (by simp)]; exact World.cell?_setCell_same _ _ _ q1
  · exact World.cell?_setCell_same _ _ _ (by rw [World.cell?_setCell_other _ _ _ _ (by simp)]; exact q2)

theorem shr_any (n : Nat) (hn : n ≤ 5) (W : World) : Sem.run Yba.prog (Op.shift .shr .u64 18446744073709551615 .i64 (IntKind.i64.wrap (64 - IntKind.i64.wrap (8 * ((n : Int) + 3))))) W = .ok (.int .u64 (mk n)) W := by
  have h6 : n = 0 ∨ n = 1 ∨ n = 2 ∨ n = 3 ∨ n = 4 ∨ n = 5 := by omega
  rcases h6 with rfl | rfl | rfl | rfl | rfl | rfl <;> (show _ = _; kernel_rfl)

set_option maxHeartbeats 1000000 in
theorem written_short (s : ByteArray) (w : World) (hb : isBad s = false) (hs : s.size ≤ 5) : Calls Yba.prog 7 #[.string s] w fun e w' => e = .returned (.agg (wrA s)) ∧ Hid (Below w.heap.size w w') := by
  have he : wrA s = #[.string (txt s), .int .u64 (wd s), .int .u64 (mk s.size)] := by simp [wrA, hb, hs]
  have ht := txt_size s
  have hadd1 := add1 s (by omega)
  have hadd2 := add2 s (by omega)
  have HE := hide he
  have hlen : ((txt s).size : Int) ≤ 8 := by omega
  clear he
  go_enter Yba.func7, Yba.ntmps7
  go_wp2_with fail
  refine (contains_any s _).mono ?_
  rintro e w1 ⟨rfl, hb1⟩
  obtain ⟨⟨c0, c1, c2⟩, ⟨f0, f1, f2⟩, lt1, hb1'⟩ := own3 hb1.out
  have HB1 := hide hb1'
  clear hb1 hb1'
  go_wp2
  obtain ⟨w2, hw2⟩ : ∃ w2, w2 = (w1.alloc (.cells #[.string (txt s), .int .u64 0, .int .u64 0] 52)).alloc (.cells Z8 57) := ⟨_, rfl⟩
  have e2 : w2.heap.size = w1.heap.size + 2 := by rw [hw2]; simp
  have hB : w2.heap[w1.heap.size + 1]? = some (.cells Z8 57 (0, 0)) := by
    rw [hw2]
    have := heap_alloc_new (w1.alloc (.cells #[.string (txt s), .int .u64 0, .int .u64 0] 52)) (.cells Z8 57)
    simpa using this
  have hbl : Below w1.heap.size w1 w2 := by rw [hw2]; exact ((Below.refl _ _).alloc (Nat.le_refl _) _).alloc (by simp) _
  have hT : w2.heap[w1.heap.size]? = some (.cells #[.string (txt s), .int .u64 0, .int .u64 0] 52 (0, 0)) := by
    rw [hw2, heap_alloc_old _ _ (by simp)]
    exact heap_alloc_new _ _
  rw [← hw2]
  clear hw2
  have t0 : w2.cell? ⟨w1.heap.size, 0, none⟩ = some (.string (txt s)) := by simp [World.cell?, hT]
  have HB := hide hB
  have HT := hide hT
  have HBL := hide hbl
  clear hB hT hbl
  go_region_law (refine step_copy8 rfl (.tmp 16) (.tmp 18) rfl (w1.heap.size + 1) Z8 HB.out rfl rfl (txt s) rfl (by omega) ?_; intro w3 h3 hg3)
  have g3 : w2.grownBy w3 (some (w1.heap.size + 1)) := ⟨hg3.out.os, hg3.out.tape, hg3.out.output, hg3.out.size, hg3.out.block⟩
  have T3 : w3.heap[w1.heap.size]? = some (.cells #[.string (txt s), .int .u64 0, .int .u64 0] 52 (0, 0)) := by
    rw [g3.block _ (by omega) (by simp)]
    exact HT.out
  have C3 : w3.heap[w.heap.size]? = w1.heap[w.heap.size]? := by
    rw [g3.block _ (by omega) (by simp; omega)]
    exact HBL.out.block _ lt1
  have B3 : Below w1.heap.size w1 w3 := HBL.out.grown g3 (by omega) (fun k hk => by cases hk; omega)
  have HLE := hide (le_any (W := w3.drew) hs h3.out)
  have HT3 := hide T3
  have HC3 := hide C3
  have HB3 := hide B3
  have l3 : w1.heap.size + 2 ≤ w3.heap.size := by have := g3.size; omega
  have t3 : w3.cell? ⟨w1.heap.size, 0, none⟩ = some (.string (txt s)) := by simp [World.cell?, T3]
  clear g3 T3 C3 B3 h3 hg3 HB HT HBL t0
  go_upto_region 7 with fail
  have lA : w1.heap.size < w3.drew.heap.size := show w1.heap.size < w3.heap.size by omega
  have lC : w.heap.size < w3.drew.heap.size := show w.heap.size < w3.heap.size by omega
  have HAFT : Hid (∀ w4, Hid (Below w3.drew.heap.size w3.drew w4) → ((w4.cell? ⟨w1.heap.size, 0, none⟩ = some (.string (txt s)) ∧ w4.cell? ⟨w1.heap.size, 1, none⟩ = some (.int .u64 0) ∧ w4.cell? ⟨w1.heap.size, 2, none⟩ = some (.int .u64 0)) ∧
      (w4.frozen? ⟨w1.heap.size, 0, none⟩ = false ∧ w4.frozen? ⟨w1.heap.size, 1, none⟩ = false ∧ w4.frozen? ⟨w1.heap.size, 2, none⟩ = false)) ∧
      ((w4.cell? ⟨w.heap.size, 0, none⟩ = some (.string ⟨#[]⟩) ∧ w4.cell? ⟨w.heap.size, 1, none⟩ = some (.int .u64 0) ∧ w4.cell? ⟨w.heap.size, 2, none⟩ = some (.int .u64 0)) ∧
      (w4.frozen? ⟨w.heap.size, 0, none⟩ = false ∧ w4.frozen? ⟨w.heap.size, 1, none⟩ = false ∧ w4.frozen? ⟨w.heap.size, 2, none⟩ = false)) ∧ Hid (Below w.heap.size w w4)) := fun w4 hb4 => by
    have a0 := (hb4.out.block w1.heap.size lA).trans HT3.out
    have a1 := (hb4.out.block w.heap.size lC).trans HC3.out
    obtain ⟨d0, z0⟩ := froz_of c0 a1
    obtain ⟨d1, z1⟩ := froz_of c1 a1
    obtain ⟨d2, z2⟩ := froz_of c2 a1
    refine ⟨three_of a0, ⟨⟨d0, d1, d2⟩, z0 f0, z1 f1, z2 f2⟩, hide ?_⟩
    exact (HB1.out.trans (HB3.out.mono (Nat.le_of_lt lt1))).trans ((Below.refl w.heap.size w3).drew.trans (hb4.out.mono (Nat.le_of_lt lC)))
  clear c0 c1 c2 f0 f1 f2 HT3 HC3 HB3 HB1
  have hn8 : (txt s).size ≤ 8 := by omega
  have hn8' : (txt s).size ≥ 3 := by omega
  have hsh := shr_any s.size hs
  go_region_with (go_at_call 10; refine HLE.out.mono ?_; rintro e w4 ⟨rfl, hb4⟩; obtain ⟨⟨⟨q0, q1, q2⟩, r0, r1, r2⟩, ⟨⟨d0, d1, d2⟩, z0, z1, z2⟩, hbf⟩ := HAFT.out w4 hb4)
  all_goals
    obtain ⟨W5, hW5, p0, p1, p2, d0, d1, d2, z0, z1, z2, hb5⟩ := two_set (w := w) (x := .int .u64 (wd s)) (y := .int .u64 (mk s.size)) (show w1.heap.size ≠ w.heap.size by omega) (Nat.le_of_lt lt1) q0 q1 q2 d0 d1 d2 z0 z1 z2 hbf.out
    rw [← hW5]
    clear hW5 q0 q1 q2 r0 r1 r2 hbf hb4 HAFT
    have l5 := World.block_lt_of_cell? W5 _ p0
    go_wp2
    obtain ⟨⟨k0, k1, k2⟩, kb⟩ := set3 d0 d1 d2 hb5.out (x := .string (txt s)) (y := .int .u64 (wd s)) (z := .int .u64 (mk s.size))
    obtain ⟨W, hW⟩ : ∃ W, W = ((W5.setCell ⟨w.heap.size, 0, none⟩ (.string (txt s))).setCell ⟨w.heap.size, 1, none⟩ (.int .u64 (wd s))).setCell ⟨w.heap.size, 2, none⟩ (.int .u64 (mk s.size)) := ⟨_, rfl⟩
    rw [← hW] at k0 k1 k2 kb ⊢
    exact bodyPost_ret (v := .agg #[.string (txt s), .int .u64 (wd s), .int .u64 (mk s.size)]) (by simp [results, Yba.results7, go_sem, k0, k1, k2]) rfl ⟨by rw [HE.out], hide kb⟩

/-- written, whatever the name. -/
theorem written_any (s : ByteArray) (w : World) (hm : s.size ≤ 140737488351232) : Calls Yba.prog 7 #[.string s] w fun e w' => e = .returned (.agg (wrA s)) ∧ Hid (Below w.heap.size w w') := by
  cases hb : isBad s with
  | true => exact written_bad s w hb
  | false =>
    by_cases hs : s.size ≤ 5
    · exact written_short s w hb hs
    · exact written_long s w hb (by omega) hm
end Go.Proofs.Ybulkkew
