import Derived.Test.YbulkkaaSer
namespace Go.Proofs.Ybulkkaa
open Go.RowKit

theorem hide {p : Prop} (h : p) : Hid p := h

/-- The points of one element: nil where there are none; else a block of its own, whose times are the first of ts. -/
def PtsOk (w : World) (tv : Nat → Int) (q : Nat) (pa : Option Addr) : Prop :=
  (q = 0 ∧ pa = none) ∨ ∃ b c, pa = some ⟨b, 0, none⟩ ∧ w.heap[b]? = some (.cells c 43 (0, 0)) ∧ ∀ j, j < q → c[j * 2]? = some (.int .i64 (tv j))

/-- The first k elements of the store, as they lie in memory. -/
def Elems (w : World) (nm : Nat → ByteArray) (tv : Nat → Int) (m k : Nat) (P : Nat → Nat) (pa : Nat → Option Addr) : Prop :=
  ∀ i, i < k → w.heap[P i]? = some (.cells #[.string (nm i), .slice none 0 0, .slice (pa i) (i % (m + 1)) (i % (m + 1)), .map none, .bool false] 40 (0, 0)) ∧ PtsOk w tv (i % (m + 1)) (pa i)

def ptrs (P : Nat → Nat) (k : Nat) : List Value := (List.range k).map fun i => .pointer (some ⟨P i, 0, none⟩)

/-- The elements' blocks (types 40 and 43) are in w2 as they were in w1. -/
def Keep (w1 w2 : World) : Prop := ∀ (b : Nat) (c : Array Value) (t : TypeId), w1.heap[b]? = some (.cells c t (0, 0)) → (t = 40 ∨ t = 43) → w2.heap[b]? = some (.cells c t (0, 0))

theorem PtsOk.keep {w1 w2 : World} {tv : Nat → Int} {q : Nat} {pa : Option Addr} (h : PtsOk w1 tv q pa) (hk : Keep w1 w2) : PtsOk w2 tv q pa := by
  rcases h with h | ⟨b, c, h1, h2, h3⟩
  · exact .inl h
  · exact .inr ⟨b, c, h1, hk b c 43 h2 (.inr rfl), h3⟩

theorem Elems.keep {w1 w2 : World} {nm : Nat → ByteArray} {tv : Nat → Int} {m k : Nat} {P : Nat → Nat} {pa : Nat → Option Addr} (h : Elems w1 nm tv m k P pa) (hk : Keep w1 w2) : Elems w2 nm tv m k P pa :=
  fun i hi => ⟨hk _ _ 40 (h i hi).1 (.inl rfl), (h i hi).2.keep hk⟩

theorem Keep.trans {a b c : World} (h : Keep a b) (k : Keep b c) : Keep a c := fun x y t h1 h2 => k x y t (h x y t h1 h2) h2

theorem keep_alloc (w : World) (o : Obj) : Keep w (w.alloc o) := fun b c t h _ => by
  rw [Below.heap_alloc _ _ _ (lt_of_block h)]; exact h

theorem keep_drew (w : World) : Keep w w.drew := fun _ _ _ h _ => h

theorem keep_grown {w1 w2 : World} {base : Nat} {v : Value} {n : Nat} {xs : List Value} (hown : w1.ownsRow base 32 1 v n xs) (hg : w1.grownBy w2 v.ownBlock) : Keep w1 w2 := fun b c t h ht => by
  rw [hg.block b (lt_of_block h) ?_]
  · exact h
  · intro e
    rcases hown.2 with ⟨rfl, _⟩ | ⟨g, cap, cur, rfl, _, hh, _⟩
    · simp [Value.ownBlock] at e
    · simp [Value.ownBlock] at e
      subst e
      rw [hh] at h
      rcases ht with rfl | rfl <;> simp at h

theorem keep_setCell {w : World} {B : Nat} {c0 : Array Value} (hB : w.heap[B]? = some (.cells c0 31 (0, 0))) (v : Value) : Keep w (w.setCell ⟨B, 0, none⟩ v) := fun b c t h ht => by
  rw [Below.heap_setCell _ _ _ _ ?_]
  · exact h
  · intro e
    simp at e
    subst e
    rw [hB] at h
    rcases ht with rfl | rfl <;> simp at h

theorem new2 (w1 : World) (o1 o2 : Obj) : ((w1.alloc o1).alloc o2).drew.heap[w1.heap.size + 1]? = some o2 := by
  show ((w1.heap.push o1).push o2)[w1.heap.size + 1]? = _
  rw [Array.getElem?_push, if_pos (by simp)]

theorem mid2 (w1 : World) (o1 o2 : Obj) : ((w1.alloc o1).alloc o2).drew.heap[w1.heap.size]? = some o1 := by
  show ((w1.heap.push o1).push o2)[w1.heap.size]? = _
  rw [Array.getElem?_push, if_neg (by simp), Array.getElem?_push, if_pos rfl]

theorem old2 (w1 : World) (o1 o2 : Obj) (b : Nat) (hb : b < w1.heap.size) : ((w1.alloc o1).alloc o2).drew.heap[b]? = w1.heap[b]? := by
  show ((w1.heap.push o1).push o2)[b]? = _
  rw [Array.getElem?_push, if_neg (by simp; omega), Array.getElem?_push, if_neg (by omega)]

theorem far2 {w1 w2 : World} {o1 o2 : Obj} {b j : Nat} {row : Option Nat} (hg : ((w1.alloc o1).alloc o2).drew.grownBy w2 row) (hb : b < w1.heap.size) (hne : some b ≠ row) :
    w2.heap[b]? = w1.heap[b]? ∧ w2.frozen? ⟨b, j, none⟩ = w1.frozen? ⟨b, j, none⟩ ∧ w2.cell? ⟨b, j, none⟩ = w1.cell? ⟨b, j, none⟩ := by
  have e : w2.heap[b]? = w1.heap[b]? := (hg.block b (by show b < ((w1.heap.push o1).push o2).size; simp; omega) hne).trans (old2 w1 o1 o2 b hb)
  exact ⟨e, World.frozen?_of_block (w := w1) e, World.cell?_of_block (w := w1) e⟩

theorem set1 (c : Array Value) (q j : Nat) (hj : j < q) (hsz : c.size = q * 2) (tv : Nat → Int) (hall : ∀ i, i < j → c[i * 2]? = some (.int .i64 (tv i))) :
    ∀ i, i < j + 1 → (c.setIfInBounds (j * 2) (.int .i64 (tv j)))[i * 2]? = some (.int .i64 (tv i)) := by
  intro i hi
  by_cases e : i = j
  · subst e
    simp [Array.getElem?_setIfInBounds]; omega
  · rw [Array.getElem?_setIfInBounds_ne (by omega)]; exact hall i (by omega)

/-- The store's own block behind the store of the new slice into its first field. -/
theorem head_setCell {w : World} {b : Nat} {v x y u : Value} {t : TypeId} (h : w.heap[b]? = some (.cells #[v, x, y] t (0, 0))) : (w.setCell ⟨b, 0, none⟩ u).heap[b]? = some (.cells #[u, x, y] t (0, 0)) := by
  have hlt := lt_of_block h
  have h' : w.heap[b] = .cells #[v, x, y] t (0, 0) := by simpa [Array.getElem?_eq_getElem hlt] using h
  show (w.heap.modify b _)[b]? = _
  rw [Array.getElem?_eq_getElem (by simpa using hlt), Array.getElem_modify_self, h']
  rfl

/-- WHAT ONE ROUND OF zzs0533cbuild DOES TO ITS RELATION. -/
theorem step {w w1 w2 : World} {k m q gg cap : Nat} {v : Value} {P : Nat → Nat} {pa : Nat → Option Addr} {nm : Nat → ByteArray} {tv : Nat → Int} {po : Option Addr}
    (hB : w1.heap[w.heap.size]? = some (.cells #[v, .map none, .slice none 0 0] 31 (0, 0))) (hown : w1.ownsRow (w.heap.size + 1) 32 1 v k (ptrs P k)) (hel : Elems w1 nm tv m k P pa) (hbel : Below w.heap.size w w1)
    (hq : k % (m + 1) = q) (hpt : PtsOk w1 tv q po)
    (hown1 : w2.ownsRow (w.heap.size + 1) 32 1 (.slice (some ⟨gg, 0, none⟩) (k + 1) cap) (k + 1) (ptrs P k ++ [.pointer (some ⟨w1.heap.size, 0, none⟩)]))
    (hgrow : ((w1.alloc (.cells #[.string (nm k), .slice none 0 0, .slice po q q, .map none, .bool false] 40)).alloc (.cells #[.pointer (some ⟨w1.heap.size, 0, none⟩)] 32)).drew.grownBy w2 v.ownBlock) :
    ∃ (P' : Nat → Nat) (pa' : Nat → Option Addr),
      (w2.setCell ⟨w.heap.size, 0, none⟩ (.slice (some ⟨gg, 0, none⟩) (k + 1) cap)).heap[w.heap.size]? = some (.cells #[.slice (some ⟨gg, 0, none⟩) (k + 1) cap, .map none, .slice none 0 0] 31 (0, 0)) ∧
      (w2.setCell ⟨w.heap.size, 0, none⟩ (.slice (some ⟨gg, 0, none⟩) (k + 1) cap)).ownsRow (w.heap.size + 1) 32 1 (.slice (some ⟨gg, 0, none⟩) (k + 1) cap) (k + 1) (ptrs P' (k + 1)) ∧
      Elems (w2.setCell ⟨w.heap.size, 0, none⟩ (.slice (some ⟨gg, 0, none⟩) (k + 1) cap)) nm tv m (k + 1) P' pa' ∧
      Below w.heap.size w (w2.setCell ⟨w.heap.size, 0, none⟩ (.slice (some ⟨gg, 0, none⟩) (k + 1) cap)) := by
  have lB := lt_of_block hB
  have ag : some w.heap.size ≠ v.ownBlock := by
    intro e
    have := (hown.lt _ e.symm).1
    omega
  have hB2 : w2.heap[w.heap.size]? = some (.cells #[v, .map none, .slice none 0 0] 31 (0, 0)) := (far2 (j := 0) hgrow lB ag).1.trans hB
  have hownX := ((hown.alloc (.cells #[.string (nm k), .slice none 0 0, .slice po q q, .map none, .bool false] 40)).alloc (.cells #[.pointer (some ⟨w1.heap.size, 0, none⟩)] 32)).drew
  have k1 : Keep w1 ((w1.alloc (.cells #[.string (nm k), .slice none 0 0, .slice po q q, .map none, .bool false] 40)).alloc (.cells #[.pointer (some ⟨w1.heap.size, 0, none⟩)] 32)).drew :=
    (keep_alloc _ _).trans ((keep_alloc _ _).trans (keep_drew _))
  have k2 := keep_grown hownX hgrow
  have k3 := keep_setCell hB2 (.slice (some ⟨gg, 0, none⟩) (k + 1) cap)
  have kk := k1.trans (k2.trans k3)
  have hnew := k3 _ _ _ (k2 _ _ _ (mid2 w1 (.cells #[.string (nm k), .slice none 0 0, .slice po q q, .map none, .bool false] 40) (.cells #[.pointer (some ⟨w1.heap.size, 0, none⟩)] 32)) (.inl rfl)) (.inl rfl)
  refine ⟨fun i => if i = k then w1.heap.size else P i, fun i => if i = k then po else pa i, head_setCell hB2, ?_, ?_, ?_⟩
  · have e : ptrs (fun i => if i = k then w1.heap.size else P i) (k + 1) = ptrs P k ++ [.pointer (some ⟨w1.heap.size, 0, none⟩)] := by
      unfold ptrs
      rw [List.range_succ, List.map_append]
      congr 1
      · apply List.map_congr_left
        intro i hi
        have := List.mem_range.1 hi
        show Value.pointer (some ⟨if i = k then _ else _, 0, none⟩) = _
        rw [if_neg (by omega)]
      · simp
    rw [e]
    exact ownsRow_setCell_below hown1 (Nat.lt_succ_self _) _
  · intro i hi
    by_cases e : i = k
    · subst e
      simp only [if_true]
      rw [hq]
      exact ⟨hnew, hpt.keep kk⟩
    · simp only [if_neg e]
      exact hel.keep kk i (by omega)
  · have b1 : Below w.heap.size w ((w1.alloc (.cells #[.string (nm k), .slice none 0 0, .slice po q q, .map none, .bool false] 40)).alloc (.cells #[.pointer (some ⟨w1.heap.size, 0, none⟩)] 32)).drew :=
      ((hbel.alloc (Nat.le_of_lt lB) _).alloc (by simp; omega) _).drew
    refine (b1.grown hgrow ?_ ?_).setCell (Nat.le_refl _) _
    · show w.heap.size ≤ ((w1.heap.push _).push _).size
      simp; omega
    · intro j hj
      have := (hown.lt _ hj).1
      omega

end Go.Proofs.Ybulkkaa
