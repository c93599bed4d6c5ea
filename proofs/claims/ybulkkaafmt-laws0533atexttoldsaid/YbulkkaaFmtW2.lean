import Derived.Test.YbulkkaaFmtW1
import Derived.Lib.ConvBytes
namespace Go.Proofs.YbulkkaaFmt
open Go.RowKit

theorem nm_inj (i j : Nat) (hi : i < 10) (hj : j < 10) (h : nmB i = nmB j) : i = j := by
  have h1 : nmL i = nmL j := by
    have := congrArg (fun b : ByteArray => b.data.toList) h
    simpa [nmB] using this
  have key : ∀ a : Fin 10, ∀ b : Fin 10, nmL a.1 = nmL b.1 → a = b := by decide
  exact congrArg Fin.val (key ⟨i, hi⟩ ⟨j, hj⟩ h1)

set_option maxHeartbeats 400000 in
theorem unm_found (fb : Nat) (v0 : Int) (ta : Option Addr) (tn tc i : Nat) (w : World) (hi : i < 10) (htab : TabIs w) (ht : TextIs w ta tn tc (nmB i))
    (hf : w.cell? ⟨fb, 0, none⟩ = some (.int .i64 v0)) (hz : w.frozen? ⟨fb, 0, none⟩ = false) :
    Calls Ybaf.prog 7 #[.pointer (some ⟨fb, 0, none⟩), .slice ta tn tc] w fun e w' => e = .returned .nilIface ∧ ∃ w1, Below w.heap.size w w1 ∧ w' = w1.setCell ⟨fb, 0, none⟩ (.int .i64 i) := by
  have hb0 : Below w.heap.size w (w.alloc (.cells #[.slice ta tn tc] 28)) := (Below.refl _ _).alloc (Nat.le_refl _) _
  have HIX := hide (indexFunc_any w.heap.size ta tn tc (nmB i) (w.alloc (.cells #[.slice ta tn tc] 28)) (htab.later hb0) (by simp [World.cell?_alloc_new]) (ht.later hb0))
  have lf := World.block_lt_of_cell? w _ hf
  have HB0 := hide hb0
  have HF := hide hf
  have HZ := hide hz
  clear htab ht hf hz hb0
  go_enter Ybaf.func7, Ybaf.ntmps7
  go_wp2_with fail
  refine HIX.out.mono ?_
  rintro e w1 ⟨r, rfl, hb1, hr⟩
  have hri : r = (i : Int) := by
    rcases hr with ⟨j, hj, rfl, hji⟩ | ⟨_, hno⟩
    · rw [nm_inj j i hj hi hji]
    · exact absurd rfl (hno i hi)
  subst hri
  have hB : Below w.heap.size w w1 := HB0.out.trans (hb1.mono (by simp))
  have cf : w1.cell? ⟨fb, 0, none⟩ = some (.int .i64 v0) := (hB.cell (p := ⟨fb, 0, none⟩) lf).trans HF.out
  have zf : w1.frozen? ⟨fb, 0, none⟩ = false := (hB.frozen (p := ⟨fb, 0, none⟩) lf).trans HZ.out
  have hi2 : ¬ ((i : Int) < 0) := by omega
  have HBB := hide hB
  clear hr hb1 HIX hB
  go_wp2
  go_ret
  exact ⟨rfl, w1, HBB.out, rfl⟩

theorem strOf_bytes (s : ByteArray) : strOfNums (s.data.toList.map fun b => (b.toNat : Int)) = s := by
  unfold strOfNums
  have h : ((s.data.toList.map fun b => (b.toNat : Int)).map fun n => UInt8.ofNat n.toNat) = s.data.toList := by
    rw [List.map_map]
    have : ((fun n : Int => UInt8.ofNat n.toNat) ∘ fun b : UInt8 => (b.toNat : Int)) = id := by
      funext b
      simp
    rw [this, List.map_id]
  rw [h]

/-- The bytes of a conversion's row are the string's, in every later world. -/
theorem text_of_bytes (w : World) (s : ByteArray) (c : Nat) : TextIs (Lib.bytesWorld w 5 s) (some ⟨w.heap.size, 0, none⟩) s.size c s := by
  intro W hW
  have hlen : (s.data.toList.map fun b => (b.toNat : Int)).length = s.size := by rw [List.length_map]; rfl
  have := run_convert_bytes_arg (P := Ybaf.prog) W 28 5 Ybaf.underlying28 Ybaf.underlying5 w.heap.size 0 s.size c (s.data.toList.map fun b => (b.toNat : Int)) hlen (fun i hi => by
    rw [hW.cell (p := ⟨w.heap.size, 0 + i, none⟩) (by rw [Lib.bytesWorld_size]; exact Nat.lt_succ_self _)]
    rw [Nat.zero_add, Lib.bytesWorld_cell w 5 s i hi]
    simp [List.getD, hi]) 9 Ybaf.underlying9
  rw [this, strOf_bytes]

theorem bytes_below (w : World) (s : ByteArray) (B : Nat) (hB : B ≤ w.heap.size) : Below B w (Lib.bytesWorld w 5 s) :=
  ⟨rfl, rfl, rfl, by rw [Lib.bytesWorld_size]; omega, fun k hk => Lib.bytesWorld_at_old w 5 s k (by omega)⟩

/-- What stands at the law's call of UnmarshalText. -/
theorem at_call (w : World) (C : Array Value) (start : Int) (s : ByteArray) :
    Below w.heap.size w (Lib.bytesWorld (((w.alloc (.cells C 22)).alloc (.cells C 22)).alloc (.cells #[.int .i64 start] 24)) 5 s) ∧
    (Lib.bytesWorld (((w.alloc (.cells C 22)).alloc (.cells C 22)).alloc (.cells #[.int .i64 start] 24)) 5 s).cell? ⟨w.heap.size + 1 + 1, 0, none⟩ = some (.int .i64 start) ∧
    (Lib.bytesWorld (((w.alloc (.cells C 22)).alloc (.cells C 22)).alloc (.cells #[.int .i64 start] 24)) 5 s).frozen? ⟨w.heap.size + 1 + 1, 0, none⟩ = false := by
  have e : (Lib.bytesWorld (((w.alloc (.cells C 22)).alloc (.cells C 22)).alloc (.cells #[.int .i64 start] 24)) 5 s).heap[w.heap.size + 1 + 1]? = some (.cells #[.int .i64 start] 24 (0, 0)) := by
    rw [Lib.bytesWorld_at_old _ _ _ _ (by simp)]
    show (((w.heap.push _).push _).push _)[w.heap.size + 1 + 1]? = _
    rw [Array.getElem?_push, if_pos (by simp)]
  refine ⟨?_, by simp [World.cell?, e], by simp [World.frozen?, e]⟩
  exact ((((Below.refl _ _).alloc (Nat.le_refl _) _).alloc (by simp) _).alloc (by simp; omega) _).trans (bytes_below _ _ _ (by simp; omega))

/-- UnmarshalText at the law's call. -/
theorem unm_at (w : World) (C : Array Value) (start : Int) (i : Nat) (hi : i < 10) (htab : TabIs w) (c : Nat) :
    Calls Ybaf.prog 7 #[.pointer (some ⟨w.heap.size + 1 + 1, 0, none⟩), .slice (some ⟨w.heap.size + 1 + 1 + 1, 0, none⟩) (nmB i).size c]
      (Lib.bytesWorld (((w.alloc (.cells C 22)).alloc (.cells C 22)).alloc (.cells #[.int .i64 start] 24)) 5 (nmB i))
      fun e w' => ∃ w1, e = .returned .nilIface ∧ w' = w1.setCell ⟨w.heap.size + 1 + 1, 0, none⟩ (.int .i64 i) ∧ Below w.heap.size w w1 ∧ w1.cell? ⟨w.heap.size + 1 + 1, 0, none⟩ = some (.int .i64 start) := by
  obtain ⟨h1, h2, h3⟩ := at_call w C start (nmB i)
  have ht := text_of_bytes (((w.alloc (.cells C 22)).alloc (.cells C 22)).alloc (.cells #[.int .i64 start] 24)) (nmB i) c
  have es : (((w.alloc (.cells C 22)).alloc (.cells C 22)).alloc (.cells #[.int .i64 start] 24)).heap.size = w.heap.size + 1 + 1 + 1 := by simp
  rw [es] at ht
  refine (unm_found (w.heap.size + 1 + 1) start _ (nmB i).size c i _ hi (htab.later h1) ht h2 h3).mono ?_
  rintro e w2 ⟨rfl, w1, hb, rfl⟩
  exact ⟨w1, rfl, rfl, h1.trans (hb.mono h1.size), (hb.cell (p := ⟨w.heap.size + 1 + 1, 0, none⟩) (World.block_lt_of_cell? _ _ h2)).trans h2⟩

set_option maxHeartbeats 2000000 in
theorem known_walk (sel start : Int) (w : World) (h0 : 0 ≤ sel) (h1 : sel ≤ 255) (htab : TabIs w) :
    Calls Ybaf.prog 3 #[.int .u8 sel, .int .i64 start] w fun e w' => e = .returned (.bool true) ∧ Below w.heap.size w w' := by
  have hcv := fun (W : World) (s : ByteArray) => Lib.run_convert_string_bytes (P := Ybaf.prog) W 9 28 5 s Ybaf.underlying9 Ybaf.underlying28 Ybaf.underlying5
  obtain ⟨i, hi, he⟩ : ∃ i : Nat, i < 10 ∧ sel % 10 = (i : Int) := ⟨(sel % 10).toNat, by omega, by omega⟩
  have HTB := hide htab
  clear htab
  have h10 : i = 0 ∨ i = 1 ∨ i = 2 ∨ i = 3 ∨ i = 4 ∨ i = 5 ∨ i = 6 ∨ i = 7 ∨ i = 8 ∨ i = 9 := by omega
  clear hi
  rcases h10 with rfl | rfl | rfl | rfl | rfl | rfl | rfl | rfl | rfl | rfl
  all_goals
    go_enter Ybaf.func3, Ybaf.ntmps3
    go_wp2_with fail
    refine (names_any w).mono ?_
    rintro e w1 ⟨rfl, rfl⟩
    unfold namesC
    go_wp2_with fail
    refine (unm_at w _ start _ (by omega) HTB.out _).mono ?_
    rintro e w2 ⟨w3, rfl, rfl, hb, cf⟩
    have hz := hb.size
    have HBB := hide hb
    clear hb
    go_wp2
    go_ret
    exact ⟨by simp, HBB.out.setCell (by simp; omega) _⟩
end Go.Proofs.YbulkkaaFmt
