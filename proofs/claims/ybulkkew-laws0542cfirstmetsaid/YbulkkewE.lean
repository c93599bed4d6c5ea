import Derived.Test.YbulkkewD
import Derived.Deep.QuietTactic
import Derived.BigQuiet
namespace Go.Proofs.Ybulkkew
open Go.RowKit

theorem bl_true {a b : ByteArray} (h : a = b) : (a.toList == b.toList) = true := by rw [h]; simp
theorem bl_false {a b : ByteArray} (h : ¬ a = b) : (a.toList == b.toList) = false := by
  rw [Go.ByteArray.toList_eq, Go.ByteArray.toList_eq]
  cases a; cases b
  simp at h ⊢
  exact h

/-- A row's slice, and where its cells lie. -/
theorem row_shape {w : World} {base : Nat} {e : TypeId} {s : Nat} {v : Value} {n : Nat} {x : List Value} (h : w.ownsRow base e s v n x) :
    ∃ (a : Option Addr) (g c : Nat), v = .slice a n c ∧ (0 < n → a = some ⟨g, 0, none⟩) ∧ ∀ (j : Nat) (u : Value), x[j]? = some u → w.cell? ⟨g, j, none⟩ = some u := by
  have hl := h.1
  rcases h.2 with ⟨rfl, rfl⟩ | ⟨g, cap, cur, rfl, _, hh, hcap, _, hsz, htk⟩
  · refine ⟨none, 0, 0, rfl, fun h => absurd h (Nat.lt_irrefl _), fun j u hu => ?_⟩
    have : x = [] := List.eq_nil_of_length_eq_zero (by simpa using hl)
    rw [this] at hu
    simp at hu
  · refine ⟨_, g, cap, rfl, fun _ => rfl, fun j u hu => ?_⟩
    have hj : j < n * s := by rw [← hl]; exact (List.getElem?_eq_some_iff.1 hu).1
    have e : cur[j]? = x[j]? := by rw [← htk, List.getElem?_take_of_lt hj, Array.getElem?_toList]
    simp [World.cell?, hh, e, hu]

theorem St.row6 {w : World} {base B m : Nat} {v6 : Value} {E : List ByteArray} {X : Nat → List Value} {N : Nat → Nat} {M : List ByteArray} (h : St w base B m v6 E X N M) : w.ownsRow base 9 1 v6 E.length (E.map Value.string) := by
  obtain ⟨C, V, h1, h2, h3, h4, h5, h6, h7, h8, h9, h10⟩ := h
  exact h9

theorem St.made (w : World) {C : Array Value} (c2 : C[2]? = some (.slice none 0 0)) (c3 : C[3]? = some (.map (some w.heap.size))) (c4 : C[4]? = some (.slice none 0 0)) (c5 : C[5]? = some (.slice none 0 0)) (c6 : C[6]? = some (.slice none 0 0)) (c7 : C[7]? = some (.slice none 0 0)) (c8 : C[8]? = some (.slice none 0 0)) (c9 : C[9]? = some (.slice none 0 0)) :
    St ((w.alloc (.map #[] 0)).alloc (.cells C 48)) w.heap.size (w.heap.size + 1) w.heap.size (.slice none 0 0) [] (Xs []) (Ns []) [] := by
  refine ⟨C, fun _ => .slice none 0 0, ?_, by omega, c3, c4, c6, ?_, ?_, Nat.le_refl _, World.ownsRow_nil _ _ _ _, .inl rfl⟩
  · have := heap_alloc_new (w.alloc (.map #[] 0)) (.cells C 48)
    simpa using this
  · intro f hf
    have hx : Xs [] f = [] := by rcases hf with rfl | rfl | rfl | rfl | rfl <;> rfl
    rw [hx]
    refine ⟨?_, World.ownsRow_nil _ _ _ _⟩
    rcases hf with rfl | rfl | rfl | rfl | rfl <;> assumption
  · exact (MapOk.made w).kept (World.grownBy_alloc _ _ none) (by simp)

theorem St.lens {w : World} {base B m : Nat} {v6 : Value} {E D M : List ByteArray} (h : St w base B m v6 E (Xs D) (Ns D) M) :
    (∃ a c, w.cell? ⟨B, 2, none⟩ = some (.slice a D.length c)) ∧ w.cell? ⟨B, 3, none⟩ = some (.map (some m)) ∧ w.cell? ⟨B, 4, none⟩ = some (.slice none 0 0) ∧ (∃ a c, w.cell? ⟨B, 5, none⟩ = some (.slice a D.length c)) ∧ w.cell? ⟨B, 6, none⟩ = some (.slice none 0 0) ∧
    (∃ a c, w.cell? ⟨B, 7, none⟩ = some (.slice a D.length c)) ∧ (∃ a c, w.cell? ⟨B, 8, none⟩ = some (.slice a D.length c)) ∧ (∃ a c, w.cell? ⟨B, 9, none⟩ = some (.slice a D.length c)) ∧ ∀ ty, (Builtin.len_ #[29] ty #[.map (some m)]).run Yba.prog w = .ok (.int .i64 (M.length : Int)) w := by
  have key : ∀ f, Fld f → ∃ a c, w.cell? ⟨B, f, none⟩ = some (.slice a D.length c) := fun f hf => by
    obtain ⟨v, c, r, _⟩ := h.field hf
    obtain ⟨a, cc, rfl⟩ := row_slice r
    exact ⟨a, cc, c⟩
  obtain ⟨C, V, h1, h2, h3, h4, h5, h6, h7, h8, h9, h10⟩ := h
  exact ⟨key 2 (.inl rfl), by simp [World.cell?, h1, h3], by simp [World.cell?, h1, h4], key 5 (.inr (.inl rfl)), by simp [World.cell?, h1, h5], key 7 (.inr (.inr (.inl rfl))), key 8 (.inr (.inr (.inr (.inl rfl)))), key 9 (.inr (.inr (.inr (.inr rfl)))), fun ty => h7.len ty⟩

abbrev Bd : Nat := 140737488351232

theorem word_size (k : Nat) : (word k).size ≤ Bd := by
  unfold word
  split <;> decide

theorem flat3 : ∀ (D : List ByteArray) (t i : Nat) (x : ByteArray), D[t]? = some x → i < 3 → (D.flatMap fun s => (wrA s).toList)[t * 3 + i]? = (wrA x).toList[i]?
  | [], t, i, x, h, _ => by simp at h
  | d :: D, 0, i, x, h, hi => by
    simp at h
    subst h
    obtain ⟨x0, y0, z0, hw⟩ := wr_parts d
    rw [List.flatMap_cons, hw]
    rw [Nat.zero_mul, Nat.zero_add, List.getElem?_append_left (by simpa using hi)]
  | d :: D, t + 1, i, x, h, hi => by
    have h' : D[t]? = some x := by simpa using h
    obtain ⟨x0, y0, z0, hw⟩ := wr_parts d
    rw [List.flatMap_cons, List.getElem?_append_right (by rw [hw]; simp; omega), ← flat3 D t i x h' hi]
    congr 1
    rw [hw]
    simp
    omega

/-- All that a round of the last loop reads of the Reader. -/
theorem St.at {w : World} {base B m : Nat} {v6 : Value} {E D : List ByteArray} (h : St w base B m v6 E (Xs D) (Ns D) D) {t : Nat} {x x0 : ByteArray} {y0 z0 : Int} (ht : D[t]? = some x) (hw : wrA x = #[.string x0, .int .u64 y0, .int .u64 z0]) :
    ∃ g2 c2 g5 c5 g7 c7 g8 c8 g9 c9 : Nat, (w.cell? ⟨B, 2, none⟩ = some (.slice (some ⟨g2, 0, none⟩) D.length c2) ∧ w.cell? ⟨g2, t, none⟩ = some (.string x)) ∧
      (w.cell? ⟨B, 5, none⟩ = some (.slice (some ⟨g5, 0, none⟩) D.length c5) ∧ w.cell? ⟨g5, t, none⟩ = some (.bool false)) ∧
      (w.cell? ⟨B, 7, none⟩ = some (.slice (some ⟨g7, 0, none⟩) D.length c7) ∧ w.cell? ⟨g7, t, none⟩ = some (.int .i64 0)) ∧
      (w.cell? ⟨B, 8, none⟩ = some (.slice (some ⟨g8, 0, none⟩) D.length c8) ∧ w.cell? ⟨g8, t * 3, none⟩ = some (.string x0) ∧ w.cell? ⟨g8, t * 3 + 1, none⟩ = some (.int .u64 y0) ∧ w.cell? ⟨g8, t * 3 + 2, none⟩ = some (.int .u64 z0)) ∧
      (w.cell? ⟨B, 9, none⟩ = some (.slice (some ⟨g9, 0, none⟩) D.length c9) ∧ w.cell? ⟨g9, t, none⟩ = some (.int .i32 (-1))) := by
  have htl : t < D.length := (List.getElem?_eq_some_iff.1 ht).1
  have key : ∀ f, Fld f → ∃ g c, w.cell? ⟨B, f, none⟩ = some (.slice (some ⟨g, 0, none⟩) D.length c) ∧ ∀ (j : Nat) (u : Value), (Xs D f)[j]? = some u → w.cell? ⟨g, j, none⟩ = some u := fun f hf => by
    obtain ⟨v, c, r, _⟩ := h.field hf
    obtain ⟨a, g, cc, rfl, ha, hc⟩ := row_shape r
    have e := ha (show 0 < Ns D f from Nat.lt_of_le_of_lt (Nat.zero_le _) htl)
    subst e
    exact ⟨g, cc, c, hc⟩
  obtain ⟨g2, c2, a2, b2⟩ := key 2 (.inl rfl)
  obtain ⟨g5, c5, a5, b5⟩ := key 5 (.inr (.inl rfl))
  obtain ⟨g7, c7, a7, b7⟩ := key 7 (.inr (.inr (.inl rfl)))
  obtain ⟨g8, c8, a8, b8⟩ := key 8 (.inr (.inr (.inr (.inl rfl))))
  obtain ⟨g9, c9, a9, b9⟩ := key 9 (.inr (.inr (.inr (.inr rfl))))
  have f8 : ∀ i u, i < 3 → (wrA x).toList[i]? = some u → w.cell? ⟨g8, t * 3 + i, none⟩ = some u := fun i u hi hu => b8 _ u (by show (D.flatMap fun s => (wrA s).toList)[t * 3 + i]? = some u; rw [flat3 D t i x ht hi]; exact hu)
  exact ⟨g2, c2, g5, c5, g7, c7, g8, c8, g9, c9, ⟨a2, b2 t _ (by show (D.map Value.string)[t]? = _; simp [ht])⟩, ⟨a5, b5 t _ (by show (List.replicate D.length _)[t]? = _; simp [htl])⟩, ⟨a7, b7 t _ (by show (List.replicate D.length _)[t]? = _; simp [htl])⟩,
    ⟨a8, f8 0 _ (by omega) (by rw [hw]; rfl), f8 1 _ (by omega) (by rw [hw]; rfl), f8 2 _ (by omega) (by rw [hw]; rfl)⟩, ⟨a9, b9 t _ (by show (List.replicate D.length _)[t]? = _; simp [htl])⟩⟩

theorem round_facts {wo : World} {base B m : Nat} {v6 : Value} {D : List ByteArray} (hs : St wo base B m v6 D (Xs D) (Ns D) D) {t g6 : Nat} {x x0 : ByteArray} {y0 z0 : Int} (hx : D[t]? = some x) (hwr : wrA x = #[.string x0, .int .u64 y0, .int .u64 z0]) (hz : x.size ≤ 140737488351232)
    (h6 : wo.cell? ⟨g6, t, none⟩ = some (.string x)) (w : World) (hb : Hid (Below wo.heap.size wo w)) : w.cell? ⟨g6, t, none⟩ = some (.string x) ∧ w.cell? ⟨B, 3, none⟩ = some (.map (some m)) ∧
      (∀ q, (Instr.lookup 29 (.map (some m)) (.string x) true).run Yba.prog (w.drewN q) = .ok (.tuple #[.int .i32 (t : Int), .bool true]) (w.drewN q)) ∧
      ∃ g2 c2 g5 c5 g7 c7 g8 c8 g9 c9 : Nat, (w.cell? ⟨B, 2, none⟩ = some (.slice (some ⟨g2, 0, none⟩) D.length c2) ∧ w.cell? ⟨g2, t, none⟩ = some (.string x)) ∧
      (w.cell? ⟨B, 5, none⟩ = some (.slice (some ⟨g5, 0, none⟩) D.length c5) ∧ w.cell? ⟨g5, t, none⟩ = some (.bool false)) ∧
      (w.cell? ⟨B, 7, none⟩ = some (.slice (some ⟨g7, 0, none⟩) D.length c7) ∧ w.cell? ⟨g7, t, none⟩ = some (.int .i64 0)) ∧
      (w.cell? ⟨B, 8, none⟩ = some (.slice (some ⟨g8, 0, none⟩) D.length c8) ∧ w.cell? ⟨g8, t * 3, none⟩ = some (.string x0) ∧ w.cell? ⟨g8, t * 3 + 1, none⟩ = some (.int .u64 y0) ∧ w.cell? ⟨g8, t * 3 + 2, none⟩ = some (.int .u64 z0)) ∧
      (w.cell? ⟨B, 9, none⟩ = some (.slice (some ⟨g9, 0, none⟩) D.length c9) ∧ w.cell? ⟨g9, t, none⟩ = some (.int .i32 (-1))) := by
  have hs' := hs.later hb.out
  exact ⟨(hb.out.cell (p := ⟨g6, t, none⟩) (World.block_lt_of_cell? wo ⟨g6, t, none⟩ h6)).trans h6, hs'.mapCell.1, fun q => (hs.later (below_drewN' hb.out q)).mapCell.2.1.found hx (by unfold maxLen; omega), hs'.at hx hwr⟩

set_option maxRecDepth 100000 in
set_option maxHeartbeats 2000000 in
theorem first_main (an : Option Addr) (nb no n cn : Nat) (ao : Option Addr) (ob oo k co : Nat) (nm : Nat → ByteArray) (ov : Nat → Int) (w : World) (hn : n ≤ 1024) (hk : k ≤ 1024)
    (ha : 0 < n → an = some ⟨nb, no, none⟩) (ho : 0 < k → ao = some ⟨ob, oo, none⟩) (hc : ∀ i, i < n → w.cell? ⟨nb, no + i, none⟩ = some (.string (nm i))) (hd : ∀ i, i < k → w.cell? ⟨ob, oo + i, none⟩ = some (.int .u8 (ov i)))
    (hz : ∀ i, i < n → (nm i).size ≤ Bd) (hv : ∀ i, i < k → 0 ≤ ov i ∧ ov i ≤ 255) :
    Calls Yba.prog 3 #[.slice an n cn, .slice ao k co] w fun e w' => e = .returned (.bool true) ∧ Hid (Below w.heap.size w w') := by
  have HA := hide ha
  have HO := hide ho
  have HC := hide hc
  have HD := hide hd
  have HZ := hide hz
  have HV := hide hv
  have hn' : ¬ (1024 : Int) < (n : Int) := by omega
  have hk' : ¬ (1024 : Int) < (k : Int) := by omega
  clear ha ho hc hd hz hv
  go_enter Yba.func3, Yba.ntmps3
  go_wp2_with fail
  refine (newReader_any w).mono ?_
  rintro e w1 ⟨rfl, C, rfl, c2, c3, c4, c5, c6, c7, c8, c9⟩
  have hst := hide (St.made w c2 c3 c4 c5 c6 c7 c8 c9)
  have hbl : Hid (Below w.heap.size w ((w.alloc (.map #[] 0)).alloc (.cells C 48))) := ((Below.refl _ _).alloc (Nat.le_refl _) _).alloc (by simp) _
  obtain ⟨w1, hw1⟩ : ∃ w1, w1 = (w.alloc (.map #[] 0)).alloc (.cells C 48) := ⟨_, rfl⟩
  rw [← hw1] at hst hbl ⊢
  clear hw1 c2 c3 c4 c5 c6 c7 c8 c9
  go_wp2
  go_loopw [6, 28] (fun v6 i wr => ∃ (j : Nat) (D : List ByteArray), j ≤ k ∧ i = .int .i64 j ∧ D.length ≤ j ∧ Hid (St wr w.heap.size (w.heap.size + 1) w.heap.size v6 D (Xs D) (Ns D) D) ∧ Hid (Below w.heap.size w wr) ∧ Hid (∀ s ∈ D, s.size ≤ Bd)) (fun _ i _ => k - (intOf i).toNat)
  case atStart => exact ⟨0, [], Nat.zero_le _, rfl, Nat.zero_le _, hst, hbl, fun s h => by cases h⟩
  case round =>
    obtain ⟨j, D, hj, rfl, hDj, hs1, hb1, hz1⟩ := hrel
    clear hst hbl
    have l1 := hb1.out.size
    by_cases hjk : j < k
    · have e0 := HO.out (by omega)
      subst e0
      have t0 : wr.cell? ⟨ob, oo + j, none⟩ = some (.int .u8 (ov j)) := (hb1.out.cell (World.block_lt_of_cell? w _ (HD.out j hjk))).trans (HD.out j hjk)
      obtain ⟨v0, v1⟩ := HV.out j hjk
      go_upto_region 10 with fail
      go_cut [42] (fun s42 wx => s42 = .bool (decide (ov j % 2 = 0) || decide (n = 0)) ∧ wx = wr)
      case first =>
        by_cases h2 : ov j % 2 = 0
        · have q2 : (ov j % 2 == 0) = true := by simp [h2]
          go_wp2
          go_meet
          case rel => exact ⟨by simp [h2], rfl⟩
        · have q2 : (ov j % 2 == 0) = false := by simp [h2]
          have q3 : ((n : Int) == 0) = decide (n = 0) := by by_cases e : n = 0 <;> simp [e]
          go_wp2
          go_meet
          case rel => exact ⟨by simp [h2], rfl⟩
      case rest =>
        obtain ⟨rfl, rfl⟩ := hcut
        go_upto_if 42 with fail
        go_cut [10] (fun s10 wx => ∃ s : ByteArray, s10 = .string s ∧ s.size ≤ Bd ∧ wx = wc)
        case first =>
          by_cases hB : (decide (ov j % 2 = 0) || decide (n = 0)) = true
          · obtain ⟨q, hq⟩ : ∃ q : Nat, (q : Int) = ov j / 2 % 4 := ⟨(ov j / 2 % 4).toNat, by omega⟩
            have hq4 : q < 4 := by omega
            rw [hB]
            go_wp2_with fail
            rw [← hq]
            refine (ctable_any q _ hq4).mono ?_
            rintro e w5 ⟨rfl, rfl⟩
            go_wp2
            go_meet
            case rel => exact ⟨_, rfl, word_size q, rfl⟩
          · have hB' : (decide (ov j % 2 = 0) || decide (n = 0)) = false := by simpa using hB
            have hn0 : n ≠ 0 := by
              intro e
              simp [e] at hB
            rw [hB']
            have hm0 : 0 ≤ ov j / 2 % (n : Int) := Int.emod_nonneg _ (by omega)
            have hm1 : ov j / 2 % (n : Int) < (n : Int) := Int.emod_lt_of_pos _ (by omega)
            obtain ⟨q, hq⟩ : ∃ q : Nat, ov j / 2 % (n : Int) = (q : Int) := ⟨(ov j / 2 % (n : Int)).toNat, by omega⟩
            have hqn : q < n := by omega
            have hqi : (q : Int) < (n : Int) := by omega
            clear hm0 hm1
            have e1 := HA.out (by omega)
            subst e1
            have t1 : wc.cell? ⟨nb, no + q, none⟩ = some (.string (nm q)) := (hb1.out.cell (World.block_lt_of_cell? w _ (HC.out _ hqn))).trans (HC.out _ hqn)
            have hqz := HZ.out _ hqn
            have hnz : ¬ (n : Int) = 0 := by omega
            have hov : 0 ≤ ov j / 2 := by omega
            go_wp2
            go_meet
            case rel => exact ⟨_, rfl, hqz, rfl⟩
        case rest =>
          obtain ⟨s, rfl, hsz, rfl⟩ := hcut
          have hr6 := hs1.out.row6
          obtain ⟨a6, g6, c6, rfl, ha6, hc6⟩ := row_shape hr6
          have HA6 := hide ha6
          have HC6 := hide hc6
          have HR6 := hide hr6
          clear ha6 hc6 hr6 t0
          go_wp2
          go_loop [11, 12] (fun v11 i => v11 = .int .i64 (-1) ∧ ∃ t : Nat, t ≤ D.length ∧ i = .int .i64 t ∧ Hid (∀ x, x < t → D[x]? ≠ some s)) (fun _ i => D.length - (intOf i).toNat)
          case atStart => exact ⟨rfl, 0, Nat.zero_le _, rfl, fun x hx => absurd hx (Nat.not_lt_zero _)⟩
          case round =>
            obtain ⟨rfl, t, ht, rfl, hno⟩ := hrel
            by_cases htl : t < D.length
            · have e6 := HA6.out (by omega)
              subst e6
              obtain ⟨x, hx⟩ : ∃ x, D[t]? = some x := ⟨D[t], List.getElem?_eq_getElem htl⟩
              have t6 := HC6.out t (.string x) (by simp [hx])
              have hti : (t : Int) < (D.length : Int) := by omega
              have HX := hide hx
              clear hx
              by_cases he : x = s
              · have hd := bl_true he
                have HE := hide he
                clear he
                go_wp2_with fail
                refine (process_old hs1.out (i := t) (by rw [HX.out, HE.out]) hsz).mono ?_
                rintro e w5 ⟨rfl, rfl⟩
                go_wp2
                go_roundw
                case rel => exact ⟨j + 1, D, by omega, by go_num, by omega, hs1, hb1, hz1⟩
                case measure => simp [intOf]; omega
              · have hd := bl_false he
                have HE := hide he
                clear he
                go_wp2
                go_round
                case rel =>
                  refine ⟨rfl, t + 1, by omega, by go_num, fun y hy => ?_⟩
                  by_cases e : y = t
                  · rw [e, HX.out]
                    intro h
                    exact HE.out (Option.some.inj h)
                  · exact hno.out y (by omega)
                case measure => simp [intOf]; omega
            · obtain ⟨i0, hi0, hz0, hy0, hw0⟩ := inf9
              have HI0 := hide hi0
              have HZ0 := hide hz0
              clear hi0 hz0
              have hmem : s ∉ D := fun h => by
                obtain ⟨x, hx⟩ := List.mem_iff_getElem?.1 h
                exact hno.out x (by have := (List.getElem?_eq_some_iff.1 hx).1; omega) hx
              have HM := hide hmem
              clear hmem
              go_wp2_with (at_builtin; refine wpList_append_lies _ rfl (.tmp 70) (.tmp 72) 22 rfl w.heap.size 9 i0 (.string ByteArray.empty) 1 16 Yba.underlying22 HI0.out HZ0.out hy0 hw0 rfl (by decide) _ D.length (D.map Value.string) rfl (HR6.out.alloc _) ⟨wc.heap.size, 0, none⟩ 1 1 [.string s] rfl rfl (cell_one_new _ _ _) (one_cell rfl) (by omega) (by unfold maxLen; omega) (by omega) (by simp; omega) (wc.heap.size + 1) (by simp) ?_; intro g7 c7 w5 hown7 hgrow7 hat7 hlt7)
              have hs5 : St w5 w.heap.size (w.heap.size + 1) w.heap.size (.slice (some ⟨g7, 0, none⟩) (D.length + 1) c7) (D ++ [s]) (Xs D) (Ns D) D := by
                have := hs1.out.own6 (E' := D ++ [s]) (g := g7) (cap' := c7) (grown_alloc hgrow7) (by simpa using hown7) (hat7.imp id (fun e => by omega))
                simpa using this
              have hb5 : Below w.heap.size w w5 := hb1.out.grown (grown_alloc hgrow7) l1 (fun k hk => (HR6.out.lt k hk).1)
              refine (process_new hs5 HM.out hsz (by omega) hb5.size).mono ?_
              rintro e w6 ⟨rfl, hs6, hb6⟩
              have hb7 := hide (hb5.trans hb6.out)
              clear hs5 hb5 hown7 hgrow7 hat7 hlt7 hb6
              go_wp2
              go_roundw
              case rel => exact ⟨j + 1, D ++ [s], by omega, by go_num, by simp; omega, hs6, hb7, fun x hx => (List.mem_append.1 hx).elim (hz1.out x) (fun h => by rw [List.mem_singleton.1 h]; exact hsz)⟩
              case measure => simp [intOf]; omega
    · have hr6 := hs1.out.row6
      obtain ⟨a6, g6, c6, rfl, ha6, hc6⟩ := row_shape hr6
      have HA6 := hide ha6
      have HC6 := hide hc6
      clear ha6 hc6 hr6
      obtain ⟨k2, k3, k4, k5, k6, k7, k8, k9, hlen⟩ := hs1.out.lens
      obtain ⟨a2, c2, k2⟩ := k2
      obtain ⟨a5, c5, k5⟩ := k5
      obtain ⟨a7, c7, k7⟩ := k7
      obtain ⟨a8, c8, k8⟩ := k8
      obtain ⟨a9, c9, k9⟩ := k9
      go_upto_region 28 with fail
      clear k2 k3 k4 k5 k6 k7 k8 k9 hlen
      obtain ⟨wo, hwo⟩ : ∃ wo : World, wo = wr := ⟨_, rfl⟩
      rw [← hwo] at HC6 hs1 hb1 l1 ⊢
      clear hwo
      go_wp2
      go_loopw [14] (fun i wr => ∃ t : Nat, t ≤ D.length ∧ i = .int .i64 t ∧ Hid (Below wo.heap.size wo wr)) (fun i _ => D.length - (intOf i).toNat)
      case atStart => exact ⟨0, Nat.zero_le _, rfl, Below.refl _ _⟩
      case round =>
        obtain ⟨t, ht, rfl, hb3⟩ := hrel
        obtain ⟨wp, hwp⟩ : ∃ wp : World, wp = wr := ⟨_, rfl⟩
        rw [← hwp] at hb3 ⊢
        clear hwp
        by_cases htl : t < D.length
        · obtain ⟨x, hx⟩ : ∃ x, D[t]? = some x := ⟨D[t], List.getElem?_eq_getElem htl⟩
          have hxz : x.size ≤ 140737488351232 := hz1.out x (List.mem_of_getElem? hx)
          obtain ⟨x0, y0, z0, hwr⟩ := wr_parts x
          have e6 := HA6.out (by omega)
          subst e6
          have HF := hide (round_facts hs1.out hx hwr hxz (HC6.out t (.string x) (by simp [hx])))
          have ht0 : (0 : Int) ≤ (t : Int) := Int.natCast_nonneg _
          have ht1 : (t : Int) < (D.length : Int) := by omega
          have HX := hide hx
          have HW := hide (written_at hwr hxz)
          clear hx hwr
          obtain ⟨t6, m3, hlk, g2, c2, g5, c5, g7, c7, g8, c8, g9, c9, ⟨m2, n2⟩, ⟨m5, n5⟩, ⟨m7, n7⟩, ⟨m8, n80, n81, n82⟩, ⟨m9, n9⟩⟩ := HF.out wp hb3
          go_wp2
          go_quiet (fail)
          go_upto_region 33 with fail
          obtain ⟨w3, hw3⟩ : ∃ w3, w3 = wp.drewN nq := ⟨_, rfl⟩
          have hb4 : Hid (Below wo.heap.size wo w3) := by rw [hw3]; exact hide (below_drewN' hb3.out nq)
          rw [← hw3]
          clear hw3 t6 m3 hlk m2 n2 m5 n5 m7 n7 m8 n80 n81 n82 m9 n9 hb3
          obtain ⟨t6, m3, hlk, g2, c2, g5, c5, g7, c7, g8, c8, g9, c9, ⟨m2, n2⟩, ⟨m5, n5⟩, ⟨m7, n7⟩, ⟨m8, n80, n81, n82⟩, ⟨m9, n9⟩⟩ := HF.out w3 hb4
          go_quiet (fail)
          go_upto_region 38 with fail
          obtain ⟨w4, hw4⟩ : ∃ w4, w4 = w3.drewN nq := ⟨_, rfl⟩
          have hb5 : Hid (Below wo.heap.size wo w4) := by rw [hw4]; exact hide (below_drewN' hb4.out nq)
          rw [← hw4]
          clear hw4 t6 m3 hlk m2 n2 m5 n5 m7 n7 m8 n80 n81 n82 m9 n9 hb4
          obtain ⟨t6, m3, hlk, g2, c2, g5, c5, g7, c7, g8, c8, g9, c9, ⟨m2, n2⟩, ⟨m5, n5⟩, ⟨m7, n7⟩, ⟨m8, n80, n81, n82⟩, ⟨m9, n9⟩⟩ := HF.out w4 hb5
          have l4 := hb5.out.size
          have HAFT : Hid (∀ w5, Hid (Below w4.drew.heap.size w4.drew w5) → w5.cell? ⟨w.heap.size + 1, 8, none⟩ = some (.slice (some ⟨g8, 0, none⟩) D.length c8) ∧ w5.cell? ⟨g8, t * 3, none⟩ = some (.string x0) ∧ w5.cell? ⟨g8, t * 3 + 1, none⟩ = some (.int .u64 y0) ∧ w5.cell? ⟨g8, t * 3 + 2, none⟩ = some (.int .u64 z0) ∧ Hid (Below wo.heap.size wo w5)) := fun w5 h5 => by
            have h5' : Below w4.heap.size w4 w5 := (Below.refl _ _).drew.trans h5.out
            have tr : ∀ {a : Addr} {v : Value}, w4.cell? a = some v → w5.cell? a = some v := fun {a v} h => (h5'.cell (World.block_lt_of_cell? w4 a h)).trans h
            exact ⟨tr m8, tr n80, tr n81, tr n82, hide (hb5.out.trans (h5'.mono hb5.out.size))⟩
          clear hlk m2 n2 m5 n5 m7 n7 m9 n9 m3
          go_region_law (go_simp; go_at_call 7; refine (HW.out _).mono ?_; rintro e w5 ⟨rfl, h5⟩; obtain ⟨o8, p80, p81, p82, hb6⟩ := HAFT.out w5 h5)
          all_goals
            clear HAFT HF HW
            go_wp2
            go_roundw
            case rel => exact ⟨t + 1, by omega, by go_num, hb6⟩
            case measure => simp [intOf]; omega
        · obtain ⟨k2, k3, k4, k5, k6, k7, k8, k9, hlen⟩ := (hs1.out.later hb3.out).lens
          clear k2 k3 k5 k7 k8 k9 hlen
          go_wp2
          go_ret
          exact ⟨rfl, hide (hb1.out.trans (hb3.out.mono l1))⟩
end Go.Proofs.Ybulkkew
