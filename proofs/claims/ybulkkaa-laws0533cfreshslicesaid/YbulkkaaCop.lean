import Derived.Test.YbulkkaaBld
import Derived.LaidEqlPtr
namespace Go.Proofs.Ybulkkaa
open Go.RowKit

/-- The same world but for draws. -/
def Sm (W wr : World) : Prop := wr.heap = W.heap ∧ wr.os = W.os ∧ wr.tape = W.tape ∧ wr.output = W.output

theorem Sm.refl (W : World) : Sm W W := ⟨rfl, rfl, rfl, rfl⟩
theorem Sm.trans {a b c : World} (h : Sm a b) (k : Sm b c) : Sm a c := ⟨k.1.trans h.1, k.2.1.trans h.2.1, k.2.2.1.trans h.2.2.1, k.2.2.2.trans h.2.2.2⟩
theorem Sm.drew {W w : World} (h : Sm W w) : Sm W w.drew := h
theorem Sm.drewN {W w : World} (h : Sm W w) (n : Nat) : Sm W (w.drewN n) := h
theorem Sm.cell {W w : World} (h : Sm W w) {a : Addr} {v : Value} (hc : W.cell? a = some v) : w.cell? a = some v := by
  rw [← hc]; simp [World.cell?, h.1]
theorem Sm.below {W w : World} (h : Sm W w) (B : Nat) : Below B W w := ⟨h.2.1, h.2.2.1, h.2.2.2, by rw [h.1]; exact Nat.le_refl _, fun k _ => by rw [h.1]⟩

/-- What the store's slice looks like, and where its pointers lie. -/
theorem shape {w : World} {base : Nat} {v : Value} {n : Nat} {P : Nat → Nat} (h : w.ownsRow base 32 1 v n (ptrs P n)) :
    ∃ (ao : Option Addr) (g cap : Nat), v = .slice ao n cap ∧ (0 < n → ao = some ⟨g, 0, none⟩) ∧ ∀ i, i < n → w.cell? ⟨g, i, none⟩ = some (.pointer (some ⟨P i, 0, none⟩)) := by
  rcases h.2 with ⟨rfl, rfl⟩ | ⟨g, cap, cur, rfl, _, hh, hcap, _, hsz, htk⟩
  · exact ⟨none, 0, 0, rfl, fun h => absurd h (Nat.lt_irrefl _), fun i hi => absurd hi (Nat.not_lt_zero _)⟩
  · refine ⟨_, g, cap, rfl, fun _ => rfl, fun i hi => ?_⟩
    have e : cur[i]? = (ptrs P n)[i]? := by
      rw [← htk, List.getElem?_take_of_lt (by omega), Array.getElem?_toList]
    simp [World.cell?, hh, e, ptrs, hi]

theorem neq_ptr (W : World) (a : Addr) : (binOp .neq 44 (.pointer (some a)) (.pointer (some a))).run Yba.prog W = .ok (.bool false) W := by
  obtain ⟨j, hj, _⟩ := info_parts Yba.info43
  have h : ∀ d : Nat, (Op.equalIn (d + 1) 44 (.pointer (some a)) (.pointer (some a))).run Yba.prog W = .ok true W := fun d => by
    simp [Op.equalIn, run_underlying Yba.underlying44, sizeOf, typeInfo, hj, run_sameAddr_same]
  simp only [binOp]
  simp [Op.equal, Op.maxDepth, h 9999]

set_option maxRecDepth 100000 in
set_option maxHeartbeats 1000000 in
theorem copies_main (a0 : Option Addr) (nb no n c0 : Nat) (a1 : Option Addr) (tb to m c1 : Nat) (nm : Nat → ByteArray) (tv : Nat → Int) (w : World)
    (hn : n ≤ 1024) (hm : m ≤ 1024)
    (ha0 : 0 < n → a0 = some ⟨nb, no, none⟩) (ha1 : 0 < m → a1 = some ⟨tb, to, none⟩)
    (hc0 : ∀ i, i < n → w.cell? ⟨nb, no + i, none⟩ = some (.string (nm i)))
    (hc1 : ∀ i, i < m → w.cell? ⟨tb, to + i, none⟩ = some (.int .i64 (tv i))) :
    Calls Yba.prog 3 #[.slice a0 n c0, .slice a1 m c1] w fun e w' => e = .returned (.bool true) ∧ Below w.heap.size w w' := by
  have HA0 : Hid (0 < n → a0 = some ⟨nb, no, none⟩) := ha0
  have HA1 : Hid (0 < m → a1 = some ⟨tb, to, none⟩) := ha1
  have HC0 : Hid (∀ i, i < n → w.cell? ⟨nb, no + i, none⟩ = some (.string (nm i))) := hc0
  have HC1 : Hid (∀ i, i < m → w.cell? ⟨tb, to + i, none⟩ = some (.int .i64 (tv i))) := hc1
  have HBU := hide (build_any a0 nb no n c0 a1 tb to m c1 nm tv w hn hm ha0 ha1 hc0 hc1)
  clear ha0 ha1 hc0 hc1
  have hnn : ¬ (1024 : Int) < (n : Int) := by omega
  have hmm : ¬ (1024 : Int) < (m : Int) := by omega
  go_enter Yba.func3, Yba.ntmps3
  go_wp2_with fail
  refine HBU.out.mono ?_
  rintro e w1 ⟨v, P, pa, rfl, hB, hown, hel, hbel⟩
  obtain ⟨ao, g, cap, rfl, hao, hptr⟩ := shape hown
  have s0 : w1.cell? ⟨w.heap.size, 0, none⟩ = some (.slice ao n cap) := by simp [World.cell?, hB]
  have s1 : ∀ i, i < n → w1.cell? ⟨P i, 0, none⟩ = some (.string (nm i)) := fun i hi => by simp [World.cell?, (hel i hi).1]
  have s2 : ∀ i, i < n → w1.cell? ⟨P i, 1, none⟩ = some (.slice none 0 0) := fun i hi => by simp [World.cell?, (hel i hi).1]
  have s3 : ∀ i, i < n → w1.cell? ⟨P i, 2, none⟩ = some (.slice (pa i) (i % (m + 1)) (i % (m + 1))) := fun i hi => by simp [World.cell?, (hel i hi).1]
  have HSE := hide (series_any w.heap.size g ao n cap P nm pa (fun i => i % (m + 1)) w1 hn s0 hao hptr s1 s2 s3)
  have HPT := hide hptr; have H1 := hide s1; have H3 := hide s3; have HEL := hide hel; have HAO := hide hao; have HB := hide hB; have HBE := hide hbel
  have lB := lt_of_block hB
  clear hptr s1 s2 s3 hel hao hown hB hbel HBU
  go_wp2_with fail
  refine HSE.out.mono ?_
  rintro e w2 ⟨c, rfl, rfl, hsz, hall⟩
  have HALL := hide hall
  clear hall HSE
  have hnil := fun (W : World) (a : Option Addr) (l c : Nat) => Lib.run_eql_slice_nil (P := Yba.prog) W 26 37 a l c 0 0 Yba.underlying26
  go_wp2
  go_loopw [7] (fun i wr => ∃ k : Nat, k ≤ n ∧ i = .int .i64 k ∧ Sm (w1.alloc (.cells c 37)) wr) (fun i _ => n - (intOf i).toNat)
  case atStart => exact ⟨0, Nat.zero_le _, rfl, Sm.refl _⟩
  case round =>
    obtain ⟨k, hk, rfl, hsm⟩ := hrel
    obtain ⟨wo, rfl⟩ : ∃ wo : World, wo = wr := ⟨_, rfl⟩
    by_cases hkn : k < n
    · have e0 := HA0.out (by omega)
      have e1 := HAO.out (by omega)
      subst e0 e1
      have lP : P k < w1.heap.size := lt_of_block (HEL.out k hkn).1
      have t0 : wo.cell? ⟨nb, no + k, none⟩ = some (.string (nm k)) := by
        have l0 := World.block_lt_of_cell? w _ (HC0.out k hkn)
        exact hsm.cell ((World.cell?_alloc_lt _ _ _ (Nat.lt_trans l0 lB)).trans ((HBE.out.cell l0).trans (HC0.out k hkn)))
      have t1 : wo.cell? ⟨w.heap.size, 0, none⟩ = some (.slice (some ⟨g, 0, none⟩) n cap) := hsm.cell ((World.cell?_alloc_lt _ _ _ lB).trans s0)
      have t2 : wo.cell? ⟨g, k, none⟩ = some (.pointer (some ⟨P k, 0, none⟩)) := hsm.cell ((World.cell?_alloc_lt _ _ _ (World.block_lt_of_cell? w1 _ (HPT.out k hkn))).trans (HPT.out k hkn))
      have t3 : wo.cell? ⟨P k, 0, none⟩ = some (.string (nm k)) := hsm.cell ((World.cell?_alloc_lt _ _ _ lP).trans (H1.out k hkn))
      have T4 : (w1.alloc (.cells c 37)).cell? ⟨P k, 2, none⟩ = some (.slice (pa k) (k % (m + 1)) (k % (m + 1))) := (World.cell?_alloc_lt _ _ _ lP).trans (H3.out k hkn)
      have T6 : (w1.alloc (.cells c 37)).cell? ⟨w1.heap.size, k * 3 + 2, none⟩ = some (.slice (pa k) (k % (m + 1)) (k % (m + 1))) := (World.cell?_alloc_new _ _ _ _).trans (HALL.out k hkn).2.2
      have t5 : wo.cell? ⟨w1.heap.size, k * 3, none⟩ = some (.string (nm k)) := hsm.cell ((World.cell?_alloc_new _ _ _ _).trans (HALL.out k hkn).1)
      have hpt := (HEL.out k hkn).2
      obtain ⟨q, hq⟩ : ∃ q : Nat, k % (m + 1) = q := ⟨_, rfl⟩
      have hqi : (k : Int) % ((m : Int) + 1) = (q : Int) := by rw [← hq]; simp
      have hqm : q ≤ m := by have := Nat.mod_lt k (show 0 < m + 1 by omega); omega
      rw [hq] at T4 T6 hpt
      clear hq
      have t4 := hsm.cell T4
      have t6 := hsm.cell T6
      have HT4 := hide T4
      have HT6 := hide T6
      clear T4 T6
      have hk0 : (0 : Int) ≤ (k : Int) := Int.natCast_nonneg _
      have hk1 : (k : Int) < (n : Int) := by omega
      have hpt' : 0 < q → ∃ b cp, pa k = some ⟨b, 0, none⟩ ∧ w1.heap[b]? = some (.cells cp 43 (0, 0)) ∧ ∀ j, j < q → cp[j * 2]? = some (.int .i64 (tv j)) := by
        intro h0
        rcases hpt with ⟨h1, _⟩ | h
        · omega
        · exact h
      have HP := hide hpt'
      clear hpt hpt'
      go_wp2
      go_quiet (fail)
      go_wp2
      simp only [hqi]
      have hsm2 := hsm.drewN
      have HS := hide hsm
      clear hsm
      go_loopw [10] (fun i wr => ∃ j : Nat, j ≤ q ∧ i = .int .i64 j ∧ Sm (w1.alloc (.cells c 37)) wr) (fun i _ => q - (intOf i).toNat)
      case atStart => exact ⟨0, Nat.zero_le _, rfl, hsm2 _⟩
      case round =>
        obtain ⟨j, hj, rfl, hsm⟩ := hrel
        clear hsm2 t0 t1 t2 t3 t4 t5 t6
        have v6 := hsm.cell HT6.out
        by_cases hjq : j < q
        · obtain ⟨b, cp, hpk, hcp, hts⟩ := HP.out (by omega)
          rw [hpk] at v6
          have e2 := HA1.out (by omega)
          subst e2
          have v1 : wr.cell? ⟨b, j * 2, none⟩ = some (.int .i64 (tv j)) := hsm.cell ((World.cell?_alloc_lt _ _ _ (lt_of_block hcp)).trans (by simp [World.cell?, hcp, hts j hjq]))
          have v2 : wr.cell? ⟨tb, to + j, none⟩ = some (.int .i64 (tv j)) := by
            have l0 := World.block_lt_of_cell? w _ (HC1.out j (by omega))
            exact hsm.cell ((World.cell?_alloc_lt _ _ _ (Nat.lt_trans l0 lB)).trans ((HBE.out.cell l0).trans (HC1.out j (by omega))))
          have hj0 : (0 : Int) ≤ (j : Int) := Int.natCast_nonneg _
          have hj1 : (j : Int) < (q : Int) := by omega
          have hj2 : (j : Int) < (m : Int) := by omega
          have HSM := hide hsm
          clear hcp hts hpk hsm
          go_wp2
          go_quiet (fail)
          go_wp2
          go_roundw
          case rel => exact ⟨j + 1, by omega, by go_num, HSM.out.drewN _⟩
          case measure => simp [intOf]; omega
        · have v4 := hsm.cell HT4.out
          have HSM := hide hsm
          clear hsm
          by_cases hq0 : 0 < q
          · obtain ⟨b, cp, hpk, hcp, hts⟩ := HP.out (by omega)
            rw [hpk] at v6 v4
            have hq1 : (0 : Int) < (q : Int) := by omega
            have hne := neq_ptr
            clear hcp hts hpk
            go_wp2
            go_quiet (fail)
            go_wp2
            go_roundw
            case rel => exact ⟨k + 1, by omega, by go_num, HSM.out.drewN _⟩
            case measure => simp [intOf]; omega
          · have hd : decide ((0 : Int) < (q : Int)) = false := decide_eq_false (by omega)
            go_wp2
            go_quiet (fail)
            go_wp2
            go_roundw
            case rel => exact ⟨k + 1, by omega, by go_num, HSM.out.drewN _⟩
            case measure => simp [intOf]; omega
    · go_wp2
      go_ret
      exact ⟨rfl, (HBE.out.trans ((Below.refl _ _).alloc (Nat.le_of_lt lB) _)).trans (hsm.below _)⟩
end Go.Proofs.Ybulkkaa
