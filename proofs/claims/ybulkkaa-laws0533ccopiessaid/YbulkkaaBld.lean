import Derived.Test.YbulkkaaParts
import Derived.Deep.RegionHeld3
import Derived.Deep.AppendLies
import Derived.Deep.DrawnRows
import Derived.Deep.RegionLaw
namespace Go.Proofs.Ybulkkaa
open Go.RowKit

theorem Yba.info32 : (Yba.prog.info? 32).map (fun i => (i.zero, i.size, i.bytes)) = some (some (.pointer none), 1, 8) := by kernel_rfl
theorem Yba.info43 : (Yba.prog.info? 43).map (fun i => (i.zero, i.size, i.bytes)) = some (some (.agg #[.int .i64 0, .float .f64 0]), 2, 16) := by kernel_rfl

/-- 'make([]Point, n)': the new block, for every world. -/
theorem make43 (n : Nat) (hn : n ≤ 1024) (w : World) :
    (Instr.makeSlice 35 (.int .i64 (n : Int)) (.int .i64 (n : Int))).run Yba.prog w = .ok (.slice (some ⟨w.heap.size, 0, none⟩) n n) (w.alloc (.cells (madeCells #[.int .i64 0, .float .f64 0] (n * 2)) 43)) := by
  obtain ⟨i, hi, hz, hs, hb⟩ := info_parts Yba.info43
  have hr := run_make (P := Yba.prog) w 35 43 i _ Yba.underlying35 hi hz .i64 .i64 n n (by omega) (Int.le_refl _) (by rw [hb]; omega) (by omega)
  simp only [Int.toNat_natCast, hs] at hr
  exact hr

set_option maxRecDepth 100000 in
set_option maxHeartbeats 1000000 in
theorem build_any (a0 : Option Addr) (nb no n c0 : Nat) (a1 : Option Addr) (tb to m c1 : Nat) (nm : Nat → ByteArray) (tv : Nat → Int) (w : World)
    (hn : n ≤ 1024) (hm : m ≤ 1024)
    (ha0 : 0 < n → a0 = some ⟨nb, no, none⟩) (ha1 : 0 < m → a1 = some ⟨tb, to, none⟩)
    (hc0 : ∀ i, i < n → w.cell? ⟨nb, no + i, none⟩ = some (.string (nm i)))
    (hc1 : ∀ i, i < m → w.cell? ⟨tb, to + i, none⟩ = some (.int .i64 (tv i))) :
    Calls Yba.prog 5 #[.slice a0 n c0, .slice a1 m c1] w fun e w' => ∃ (v : Value) (P : Nat → Nat) (pa : Nat → Option Addr), e = .returned (.pointer (some ⟨w.heap.size, 0, none⟩)) ∧
      w'.heap[w.heap.size]? = some (.cells #[v, .map none, .slice none 0 0] 31 (0, 0)) ∧ w'.ownsRow (w.heap.size + 1) 32 1 v n (ptrs P n) ∧ Elems w' nm tv m n P pa ∧ Below w.heap.size w w' := by
  have HA0 : Hid (0 < n → a0 = some ⟨nb, no, none⟩) := ha0
  have HA1 : Hid (0 < m → a1 = some ⟨tb, to, none⟩) := ha1
  clear ha0 ha1
  obtain ⟨i0, hi0, hz0, hz1, hz2⟩ := info_parts Yba.info32
  go_enter Yba.func5, Yba.ntmps5
  go_wp2
  go_loopw [6] (fun i wr => ∃ (k : Nat) (v : Value) (P : Nat → Nat) (pa : Nat → Option Addr), k ≤ n ∧ i = .int .i64 k ∧
      wr.heap[w.heap.size]? = some (.cells #[v, .map none, .slice none 0 0] 31 (0, 0)) ∧ wr.ownsRow (w.heap.size + 1) 32 1 v k (ptrs P k) ∧ Elems wr nm tv m k P pa ∧ Below w.heap.size w wr)
    (fun i _ => n - (intOf i).toNat)
  case atStart => exact ⟨0, _, fun _ => 0, fun _ => none, Nat.zero_le _, rfl, heap_alloc_new _ _, World.ownsRow_nil _ _ _ _, fun i hi => by omega, (Below.refl _ _).alloc (Nat.le_refl _) _⟩
  case round =>
    obtain ⟨k, v, P, pa, hk, rfl, hB, hown, hel, hbel⟩ := hrel
    obtain ⟨wo, rfl⟩ : ∃ wo : World, wo = wr := ⟨_, rfl⟩
    by_cases hkn : k < n
    · have e0 := HA0.out (by omega)
      subst e0
      have q0 : wo.cell? ⟨nb, no + k, none⟩ = some (.string (nm k)) := (hbel.cell (World.block_lt_of_cell? w _ (hc0 k hkn))).trans (hc0 k hkn)
      obtain ⟨q, hq⟩ : ∃ q : Nat, k % (m + 1) = q := ⟨_, rfl⟩
      have hqi : (k : Int) % ((m : Int) + 1) = (q : Int) := by rw [← hq]; simp
      have HQ : Hid (k % (m + 1) = q) := hq
      have hqm : q ≤ m := by have := Nat.mod_lt k (show 0 < m + 1 by omega); omega
      clear hq
      by_cases hq0 : 0 < q
      · have hmk := make43 q (by omega)
        have e1 := HA1.out (by omega)
        subst e1
        have hc1' : ∀ i, i < q → wo.cell? ⟨tb, to + i, none⟩ = some (.int .i64 (tv i)) := fun i hi => (hbel.cell (World.block_lt_of_cell? w _ (hc1 i (by omega)))).trans (hc1 i (by omega))
        have HC1 : Hid (∀ i, i < q → wo.cell? ⟨tb, to + i, none⟩ = some (.int .i64 (tv i))) := hc1'
        have HB : Hid (wo.heap[w.heap.size]? = some (.cells #[v, .map none, .slice none 0 0] 31 (0, 0))) := hB
        have HEL : Hid (Elems wo nm tv m k P pa) := hel
        clear hc0 hc1 hc1' hB hel
        go_wp2
        go_loopw [9] (fun i wr => ∃ (j : Nat) (c : Array Value), j ≤ q ∧ i = .int .i64 j ∧ wr = wo.alloc (.cells c 43) ∧ c.size = q * 2 ∧ ∀ i, i < j → c[i * 2]? = some (.int .i64 (tv i)))
          (fun i _ => q - (intOf i).toNat)
        case atStart => exact ⟨0, _, Nat.zero_le _, rfl, rfl, by simp [size_madeCells], fun i hi => by omega⟩
        case round =>
          obtain ⟨j, c, hj, rfl, rfl, hsz, hall⟩ := hrel
          have HALL : Hid (∀ i, i < j → c[i * 2]? = some (.int .i64 (tv i))) := hall
          clear hall
          by_cases hjq : j < q
          · have r0 := HC1.out j hjq
            have l0 := World.block_lt_of_cell? wo _ r0
            obtain ⟨v0, r1⟩ : ∃ v, c[j * 2]? = some v := ⟨_, Array.getElem?_eq_getElem (by omega)⟩
            go_wp2
            go_roundw
            case rel => exact ⟨j + 1, _, by omega, by go_num, rfl, by simpa using hsz, set1 c q j hjq hsz tv HALL.out⟩
            case measure => simp [intOf]; omega
          · go_wp2
            obtain rfl : j = q := by omega
            have RB : Hid ((wo.alloc (.cells c 43)).heap[w.heap.size]? = some (.cells #[v, .map none, .slice none 0 0] 31 (0, 0))) := (Below.heap_alloc _ _ _ (lt_of_block HB.out)).trans HB.out
            have RE : Hid (Elems (wo.alloc (.cells c 43)) nm tv m k P pa) := HEL.out.keep (keep_alloc _ _)
            have RP : Hid (PtsOk (wo.alloc (.cells c 43)) tv j (some ⟨wo.heap.size, 0, none⟩)) := .inr ⟨_, c, rfl, heap_alloc_new _ _, HALL.out⟩
            have RL : Hid (Below w.heap.size w (wo.alloc (.cells c 43))) := hbel.alloc (Nat.le_of_lt (lt_of_block HB.out)) _
            have g2 : (wo.alloc (.cells c 43)).cell? ⟨nb, no + k, none⟩ = some (.string (nm k)) := (World.cell?_alloc_lt _ _ _ (World.block_lt_of_cell? wo _ q0)).trans q0
            have g3 : (wo.alloc (.cells c 43)).ownsRow (w.heap.size + 1) 32 1 v k (ptrs P k) := hown.alloc _
            generalize wo.alloc (.cells c 43) = w1 at RB RE RP RL g2 g3 ⊢
            have g0 : w1.cell? ⟨w.heap.size, 0, none⟩ = some v := by simp [World.cell?, RB.out]
            have g1 : w1.frozen? ⟨w.heap.size, 0, none⟩ = false := by simp [World.frozen?, RB.out]
            have lB : w.heap.size < w1.heap.size := World.block_lt_of_cell? w1 _ g0
            have lN : nb < w1.heap.size := World.block_lt_of_cell? w1 _ g2
            have ag : v.ownBlock ≠ some w.heap.size := fun e => by have := (g3.lt _ e).1; omega
            clear HALL hown q0 hbel HB HEL HC1
            have hk0 : (0 : Int) ≤ (k : Int) := Int.natCast_nonneg _
            have hk1 : (k : Int) < (n : Int) := by omega
            go_region_law
              ((refine step_append_lies _ (by rfl) _ _ _ (by rfl) (w.heap.size + 1) 32 i0 _ 1 8 Yba.underlying28 hi0 hz0 hz1 hz2 rfl (by omega) v k (ptrs P k) (by rfl) (((g3.alloc _).alloc _).drew)
                  ⟨w1.heap.size + 1, 0, none⟩ 1 1 [.pointer (some ⟨w1.heap.size, 0, none⟩)] (by rfl) (by rfl) (World.news_of_block (cs := #[.pointer (some ⟨w1.heap.size, 0, none⟩)]) (t := 32) (fr := (0, 0)) (new2 w1 _ _)) (by simp [Value.oneCell'])
                  (by omega) (by unfold maxLen; omega) (by omega) (by simp; omega) (w1.heap.size + 2) (by simp) ?_; intro gg cap w2 hown1 hgrow hat hlt; have f2 : w2.frozen? ⟨w.heap.size, 0, none⟩ = false := (far2 hgrow lB (Ne.symm ag)).2.1.trans g1; have c2 : w2.cell? ⟨w.heap.size, 0, none⟩ = some v := (far2 hgrow lB (Ne.symm ag)).2.2.trans g0))
            all_goals
              obtain ⟨P', pa', t1, t2, t3, t4⟩ := step RB.out g3 RE.out RL.out HQ.out RP.out hown1 hgrow
              have T1 := hide t1
              clear t1 g0 g1 g2 c2 f2 hgrow hown1
              go_wp2
              go_roundw
              case rel => (repeat apply Exists.intro); exact ⟨⟨k + 1, _, P', pa', by omega, by go_num, T1.out, t2, t3, t4⟩, rfl⟩
              case measure => simp [intOf]; omega
      · obtain rfl : q = 0 := by omega
        have RB : Hid (wo.heap[w.heap.size]? = some (.cells #[v, .map none, .slice none 0 0] 31 (0, 0))) := hB
        have RE : Hid (Elems wo nm tv m k P pa) := hel
        have RP : Hid (PtsOk wo tv 0 none) := .inl ⟨rfl, rfl⟩
        have RL : Hid (Below w.heap.size w wo) := hbel
        clear hc0 hc1 hB hel
        go_wp2
        have g0 : wo.cell? ⟨w.heap.size, 0, none⟩ = some v := by simp [World.cell?, RB.out]
        have g1 : wo.frozen? ⟨w.heap.size, 0, none⟩ = false := by simp [World.frozen?, RB.out]
        have lB : w.heap.size < wo.heap.size := World.block_lt_of_cell? wo _ g0
        have lN : nb < wo.heap.size := World.block_lt_of_cell? wo _ q0
        have ag : v.ownBlock ≠ some w.heap.size := fun e => by have := (hown.lt _ e).1; omega
        have hk0 : (0 : Int) ≤ (k : Int) := Int.natCast_nonneg _
        have hk1 : (k : Int) < (n : Int) := by omega
        go_region_law
          ((refine step_append_lies _ (by rfl) _ _ _ (by rfl) (w.heap.size + 1) 32 i0 _ 1 8 Yba.underlying28 hi0 hz0 hz1 hz2 rfl (by omega) v k (ptrs P k) (by rfl) (((hown.alloc _).alloc _).drew)
              ⟨wo.heap.size + 1, 0, none⟩ 1 1 [.pointer (some ⟨wo.heap.size, 0, none⟩)] (by rfl) (by rfl) (World.news_of_block (cs := #[.pointer (some ⟨wo.heap.size, 0, none⟩)]) (t := 32) (fr := (0, 0)) (new2 wo _ _)) (by simp [Value.oneCell'])
              (by omega) (by unfold maxLen; omega) (by omega) (by simp; omega) (wo.heap.size + 2) (by simp) ?_; intro gg cap w2 hown1 hgrow hat hlt; have f2 : w2.frozen? ⟨w.heap.size, 0, none⟩ = false := (far2 hgrow lB (Ne.symm ag)).2.1.trans g1; have c2 : w2.cell? ⟨w.heap.size, 0, none⟩ = some v := (far2 hgrow lB (Ne.symm ag)).2.2.trans g0))
        all_goals
          obtain ⟨P', pa', t1, t2, t3, t4⟩ := step RB.out hown RE.out RL.out HQ.out RP.out hown1 hgrow
          have T1 := hide t1
          clear t1 g0 g1 q0 c2 f2 hgrow hown1
          go_wp2
          go_roundw
          case rel => (repeat apply Exists.intro); exact ⟨⟨k + 1, _, P', pa', by omega, by go_num, T1.out, t2, t3, t4⟩, rfl⟩
          case measure => simp [intOf]; omega
    · obtain rfl : k = n := by omega
      clear hc0 hc1
      go_wp2
      go_ret
      exact ⟨v, P, pa, rfl, hB, hown, hel, hbel⟩
end Go.Proofs.Ybulkkaa
