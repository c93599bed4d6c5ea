import Derived.Test.YbulkkaaCop
namespace Go.Proofs.Ybulkkaa
open Go.RowKit

set_option maxRecDepth 100000 in
set_option maxHeartbeats 1000000 in
theorem fresh_main (a0 : Option Addr) (nb no n c0 : Nat) (nm : Nat → ByteArray) (w : World)
    (hn : n ≤ 1024)
    (ha0 : 0 < n → a0 = some ⟨nb, no, none⟩)
    (hc0 : ∀ i, i < n → w.cell? ⟨nb, no + i, none⟩ = some (.string (nm i)))
    (hb0 : ∀ i, i < n → (nm i).size ≤ 140737488351232) :
    Calls Yba.prog 4 #[.slice a0 n c0] w fun e w' => e = .returned (.bool true) ∧ Below w.heap.size w w' := by
  have HA0 : Hid (0 < n → a0 = some ⟨nb, no, none⟩) := ha0
  have HC0 : Hid (∀ i, i < n → w.cell? ⟨nb, no + i, none⟩ = some (.string (nm i))) := hc0
  have HB0 := hide hb0
  have HBU := hide (build_any a0 nb no n c0 none 0 0 0 0 nm (fun _ => 0) w hn (by omega) ha0 (fun h => absurd h (Nat.lt_irrefl _)) hc0 (fun i hi => absurd hi (Nat.not_lt_zero _)))
  clear ha0 hc0 hb0
  have hnn : ¬ (1024 : Int) < (n : Int) := by omega
  go_enter Yba.func4, Yba.ntmps4
  go_wp2_with fail
  refine HBU.out.mono ?_
  rintro e w1 ⟨v, P, pa, rfl, hB, hown, hel, hbel⟩
  obtain ⟨ao, g, cap, rfl, hao, hptr⟩ := shape hown
  have s0 : w1.cell? ⟨w.heap.size, 0, none⟩ = some (.slice ao n cap) := by simp [World.cell?, hB]
  have s1 : ∀ i, i < n → w1.cell? ⟨P i, 0, none⟩ = some (.string (nm i)) := fun i hi => by simp [World.cell?, (hel i hi).1]
  have s2 : ∀ i, i < n → w1.cell? ⟨P i, 1, none⟩ = some (.slice none 0 0) := fun i hi => by simp [World.cell?, (hel i hi).1]
  have s3 : ∀ i, i < n → w1.cell? ⟨P i, 2, none⟩ = some (.slice (pa i) (i % (0 + 1)) (i % (0 + 1))) := fun i hi => by simp [World.cell?, (hel i hi).1]
  have HSE := hide (series_any w.heap.size g ao n cap P nm pa (fun i => i % (0 + 1)) w1 hn s0 hao hptr s1 s2 s3)
  have HPT := hide hptr; have H1 := hide s1; have H2 := hide s2; have H3 := hide s3; have HEL := hide hel; have HAO := hide hao; have HBE := hide hbel
  have lB := lt_of_block hB
  have HS0 := hide s0
  clear hptr s1 s2 s3 hel hao hown hB hbel HBU s0
  go_wp2_with fail
  refine HSE.out.mono ?_
  rintro e w2 ⟨c, rfl, rfl, hsz, hall⟩
  have HALL := hide hall
  clear hall HSE
  go_wp2
  go_loopw [5] (fun i wr => ∃ (k : Nat) (c' : Array Value), k ≤ n ∧ i = .int .i64 k ∧ wr = w1.alloc (.cells c' 37) ∧ c'.size = n * 3 ∧ ∀ i, k ≤ i → i < n → c'[i * 3]? = some (.string (nm i))) (fun i _ => n - (intOf i).toNat)
  case atStart => exact ⟨0, c, Nat.zero_le _, rfl, rfl, hsz, fun i _ hi => (HALL.out i hi).1⟩
  case round =>
    obtain ⟨k, c', hk, rfl, rfl, hsz', hrest⟩ := hrel
    have HR := hide hrest
    have HZ := hide hsz'
    clear hrest hsz'
    by_cases hkn : k < n
    · have r0 := HR.out k (Nat.le_refl _) hkn
      have r1 := HB0.out k hkn
      obtain ⟨sx, hadd⟩ : ∃ sx : ByteArray, ∀ W, (Op.stringOp .add (nm k) ⟨#[33]⟩).run Yba.prog W = .ok (.string sx) W :=
        ⟨_, fun W => run_string_add_sum (P := Yba.prog) W (nm k) ⟨#[33]⟩ (by show (nm k).size + 1 ≤ _; omega)⟩
      go_wp2
      go_roundw
      case rel =>
        refine ⟨k + 1, _, by omega, by go_num, rfl, by simpa using HZ.out, fun i hi1 hi2 => ?_⟩
        rw [Array.getElem?_setIfInBounds_ne (by omega)]
        exact HR.out i (by omega) hi2
      case measure => simp [intOf]; omega
    · go_wp2
      obtain ⟨W1, hW1⟩ : ∃ W1, W1 = w1.alloc (.cells c' 37) := ⟨_, rfl⟩
      have G0 : W1.cell? ⟨w.heap.size, 0, none⟩ = some (.slice ao n cap) := by rw [hW1]; exact (World.cell?_alloc_lt _ _ _ lB).trans HS0.out
      have lP : ∀ i, i < n → P i < w1.heap.size := fun i hi => lt_of_block (HEL.out i hi).1
      have G1 : ∀ i, i < n → W1.cell? ⟨g, i, none⟩ = some (.pointer (some ⟨P i, 0, none⟩)) := fun i hi => by rw [hW1]; exact (World.cell?_alloc_lt _ _ _ (World.block_lt_of_cell? w1 _ (HPT.out i hi))).trans (HPT.out i hi)
      have G2 : ∀ i, i < n → W1.cell? ⟨P i, 0, none⟩ = some (.string (nm i)) := fun i hi => by rw [hW1]; exact (World.cell?_alloc_lt _ _ _ (lP i hi)).trans (H1.out i hi)
      have G3 : ∀ i, i < n → W1.cell? ⟨P i, 1, none⟩ = some (.slice none 0 0) := fun i hi => by rw [hW1]; exact (World.cell?_alloc_lt _ _ _ (lP i hi)).trans (H2.out i hi)
      have G4 : ∀ i, i < n → W1.cell? ⟨P i, 2, none⟩ = some (.slice (pa i) (i % (0 + 1)) (i % (0 + 1))) := fun i hi => by rw [hW1]; exact (World.cell?_alloc_lt _ _ _ (lP i hi)).trans (H3.out i hi)
      have G5 : ∀ i, i < n → W1.cell? ⟨nb, no + i, none⟩ = some (.string (nm i)) := fun i hi => by
        have l0 := World.block_lt_of_cell? w _ (HC0.out i hi)
        rw [hW1]
        exact (World.cell?_alloc_lt _ _ _ (Nat.lt_trans l0 lB)).trans ((HBE.out.cell l0).trans (HC0.out i hi))
      have G6 : Below w.heap.size w W1 := by rw [hW1]; exact HBE.out.alloc (Nat.le_of_lt lB) _
      rw [← hW1]
      have HG0 := hide G0; have HG1 := hide G1; have HG2 := hide G2; have HG3 := hide G3; have HG4 := hide G4; have HG5 := hide G5; have HG6 := hide G6
      clear G0 G1 G2 G3 G4 G5 G6 hW1 HR HALL HPT H1 H2 H3 HEL HBE HS0 HC0 lP HB0
      go_loopw [6] (fun i wr => ∃ k : Nat, k ≤ n ∧ i = .int .i64 k ∧ Sm W1 wr) (fun i _ => n - (intOf i).toNat)
      case atStart => exact ⟨0, Nat.zero_le _, rfl, Sm.refl _⟩
      case round =>
        obtain ⟨k2, hk2, rfl, hsm⟩ := hrel
        by_cases hkn2 : k2 < n
        · have e0 := HA0.out (by omega)
          have e1 := HAO.out (by omega)
          subst e0 e1
          have t0 := hsm.cell (HG5.out k2 hkn2)
          have t1 := hsm.cell HG0.out
          have t2 := hsm.cell (HG1.out k2 hkn2)
          have t3 := hsm.cell (HG2.out k2 hkn2)
          have hk0 : (0 : Int) ≤ (k2 : Int) := Int.natCast_nonneg _
          have hk1 : (k2 : Int) < (n : Int) := by omega
          have HSM := hide hsm
          clear hsm
          go_wp2
          go_quiet (fail)
          go_wp2
          go_roundw
          case rel => exact ⟨k2 + 1, by omega, by go_num, HSM.out.drewN _⟩
          case measure => simp [intOf]; omega
        · have HSE2 := hide (series_any w.heap.size g ao n cap P nm pa (fun i => i % (0 + 1)) wr hn (hsm.cell HG0.out) HAO.out (fun i hi => hsm.cell (HG1.out i hi)) (fun i hi => hsm.cell (HG2.out i hi)) (fun i hi => hsm.cell (HG3.out i hi)) (fun i hi => hsm.cell (HG4.out i hi)))
          have HSM := hide hsm
          have hbw := HG6.out.trans (hsm.below _)
          have lW : w.heap.size ≤ wr.heap.size := hbw.size
          have HBW := hide hbw
          clear hsm hbw
          go_wp2_with fail
          refine HSE2.out.mono ?_
          rintro e w3 ⟨d, rfl, rfl, hdz, hdall⟩
          have HD := hide hdall
          have HG5' : Hid (∀ i, i < n → wr.cell? ⟨nb, no + i, none⟩ = some (.string (nm i))) := fun i hi => HSM.out.cell (HG5.out i hi)
          clear hdall HSE2
          go_wp2
          obtain ⟨wu, rfl⟩ : ∃ wu : World, wu = wr := ⟨_, rfl⟩
          go_loopw [8] (fun i wr => ∃ k : Nat, k ≤ n ∧ i = .int .i64 k ∧ Sm (wu.alloc (.cells d 37)) wr) (fun i _ => n - (intOf i).toNat)
          case atStart => exact ⟨0, Nat.zero_le _, rfl, Sm.refl _⟩
          case round =>
            obtain ⟨k3, hk3, rfl, hsm⟩ := hrel
            by_cases hkn3 : k3 < n
            · have e0 := HA0.out (by omega)
              subst e0
              have t0 : wr.cell? ⟨nb, no + k3, none⟩ = some (.string (nm k3)) := hsm.cell ((World.cell?_alloc_lt _ _ _ (World.block_lt_of_cell? wu _ (HG5'.out k3 hkn3))).trans (HG5'.out k3 hkn3))
              have t1 : wr.cell? ⟨wu.heap.size, k3 * 3, none⟩ = some (.string (nm k3)) := hsm.cell ((World.cell?_alloc_new _ _ _ _).trans (HD.out k3 hkn3).1)
              have hk0 : (0 : Int) ≤ (k3 : Int) := Int.natCast_nonneg _
              have hk1 : (k3 : Int) < (n : Int) := by omega
              have HSM3 := hide hsm
              clear hsm
              go_wp2
              go_quiet (fail)
              go_wp2
              go_roundw
              case rel => exact ⟨k3 + 1, by omega, by go_num, HSM3.out.drewN _⟩
              case measure => simp [intOf]; omega
            · go_wp2
              go_ret
              exact ⟨rfl, (HBW.out.alloc lW _).trans (hsm.below _)⟩
end Go.Proofs.Ybulkkaa
