import Derived.Test.YbulkkewB
import Derived.Lib.OwnKind
import Derived.OneCell
import Derived.Deep.AppendLies
import Derived.Maps.OwnSet
namespace Go.Proofs.Ybulkkew
open Go.RowKit
open Go.WideMaps (keyOf_string_mk)

/-! ### The map of names -/
theorem keys9 : Maps.Keyed Yba.prog 9 := Maps.string_keyed Yba.underlying9

/-- Block m is the map that gives each name of D its index. -/
def MapOk (w : World) (m : Nat) (D : List ByteArray) : Prop :=
  ∃ (n : Nat) (Dm : DataW Unit), w.ownsMap Yba.prog 9 (plainElem Yba.prog 21) m n Dm ∧ n ≤ D.length ∧ Maps.size Dm = D.length ∧ (∀ s : ByteArray, s ∉ D → Maps.has Dm (.string s.data.toList) = false) ∧
    ∀ (i : Nat) (s : ByteArray), D[i]? = some s → Maps.has Dm (.string s.data.toList) = true ∧ ∀ z, Dm.atKey (.string s.data.toList) z = .lit (.int .i32 (i : Int))

theorem MapOk.kept {w w' : World} {m : Nat} {D : List ByteArray} {row : Option Nat} (h : MapOk w m D) (hg : w.grownBy w' row) (hne : some m ≠ row) : MapOk w' m D := by
  obtain ⟨n, Dm, h1, h2⟩ := h
  exact ⟨n, Dm, h1.kept hg hne, h2⟩
theorem MapOk.setCell {w : World} {m : Nat} {D : List ByteArray} (h : MapOk w m D) {a : Addr} (ha : m ≠ a.block) (u : Value) : MapOk (w.setCell a u) m D := by
  obtain ⟨n, Dm, h1, h2⟩ := h
  exact ⟨n, Dm, h1.setCell ha u, h2⟩
theorem MapOk.isMap {w : World} {m : Nat} {D : List ByteArray} (h : MapOk w m D) : ∃ es clock, w.heap[m]? = some (.map es clock) := by
  obtain ⟨n, Dm, ⟨es, clock, hb, _⟩, _⟩ := h
  exact ⟨es, clock, hb⟩
theorem MapOk.made (w : World) : MapOk (w.alloc (.map #[] 0)) w.heap.size [] :=
  ⟨0, .map [], World.ownsMap_made w Yba.prog 9 _, Nat.le_refl _, rfl, fun _ _ => rfl, fun i s h => by simp at h⟩

theorem zero21 (w : World) : (zeroValue 21).run Yba.prog w = .ok (.int .i32 0) w := by kernel_rfl

theorem MapOk.found {w : World} {m : Nat} {D : List ByteArray} (h : MapOk w m D) {i : Nat} {s : ByteArray} (hi : D[i]? = some s) (hs : s.size ≤ maxLen) :
    (Instr.lookup 29 (.map (some m)) (.string s) true).run Yba.prog w = .ok (.tuple #[.int .i32 (i : Int), .bool true]) w := by
  obtain ⟨n, Dm, h1, _, _, _, h5⟩ := h
  obtain ⟨v, ps, hrun, hv⟩ := h1.look_ok keys9 Yba.underlying29 (zero21 w) (plainElem_int Yba.underlying21 (by decide)) (keyOf_string_mk Yba.underlying9 hs)
  obtain ⟨a1, a2⟩ := h5 i s hi
  rw [a2] at hv
  obtain ⟨c, rfl, hc, _⟩ := plainElem_int_inv Yba.underlying21 hv
  simp only [Prod.mk.injEq, DataW.lit.injEq, Lit.int.injEq, true_and] at hc
  rw [hrun, a1, hc.1]

theorem MapOk.missing {w : World} {m : Nat} {D : List ByteArray} (h : MapOk w m D) {s : ByteArray} (hi : s ∉ D) (hs : s.size ≤ maxLen) :
    ∃ c : Int, (Instr.lookup 29 (.map (some m)) (.string s) true).run Yba.prog w = .ok (.tuple #[.int .i32 c, .bool false]) w := by
  obtain ⟨n, Dm, h1, _, _, h4, _⟩ := h
  obtain ⟨v, ps, hrun, hv⟩ := h1.look_ok keys9 Yba.underlying29 (zero21 w) (plainElem_int Yba.underlying21 (by decide)) (keyOf_string_mk Yba.underlying9 hs)
  obtain ⟨c, rfl, hc, _⟩ := plainElem_int_inv Yba.underlying21 hv
  exact ⟨c, by rw [hrun, h4 s hi]⟩

theorem MapOk.len {w : World} {m : Nat} {D : List ByteArray} (h : MapOk w m D) (ty : TypeId) : (Builtin.len_ #[29] ty #[.map (some m)]).run Yba.prog w = .ok (.int .i64 (D.length : Int)) w := by
  obtain ⟨n, Dm, h1, _, h3, _⟩ := h
  rw [h1.len Yba.underlying29 ty, h3]

theorem data_ne {s t : ByteArray} (h : s ≠ t) : Lit.string s.data.toList ≠ Lit.string t.data.toList := fun e => h (by
  cases s; cases t
  simp at e
  rw [e])

theorem wf32 {n : Nat} (h : n ≤ 2000) : (Lit.int .i32 (n : Int)).wf = true := by
  have h1 : ((-2147483648 : Int) ≤ (n : Int)) := by omega
  have h2 : ((n : Int) ≤ 2147483647) := by omega
  have e1 : IntKind.i32.min = -2147483648 := by decide
  have e2 : IntKind.i32.max = 2147483647 := by decide
  simp [Lit.wf, e1, e2]
  omega

theorem key_str (l : List UInt8) : WideAt.IsKeyLit (.string l) := trivial

theorem MapOk.put {w : World} {m : Nat} {D : List ByteArray} (h : MapOk w m D) {s : ByteArray} (hi : s ∉ D) (hs : s.size ≤ maxLen) (hl : D.length ≤ 2000) :
    ∃ w', (Instr.mapUpdate 29 (.map (some m)) (.string s) (.int .i32 (D.length : Int))).run Yba.prog w = .ok () w' ∧ Hid (MapOk w' m (D ++ [s])) ∧ Hid (w.grownBy w' (some m)) := by
  obtain ⟨n, Dm, h1, h2, h3, h4, h5⟩ := h
  have hwf := wf32 hl
  obtain ⟨w', hrun, g1, g2⟩ := h1.update keys9 Yba.underlying29 (by unfold maxLen; omega) (keyOf_string_mk Yba.underlying9 hs) (plainElem_int Yba.underlying21 hwf)
  refine ⟨w', hrun, ⟨n + 1, _, g1, by simp; omega, ?_, ?_, ?_⟩, g2⟩
  · rw [Maps.size_put (h1.tidy keys9), h4 s hi]
    simp [h3]
  · intro t ht
    simp only [List.mem_append, List.mem_singleton, not_or] at ht
    rw [Maps.has_put_other (data_ne ht.2)]
    exact h4 t ht.1
  · intro i t ht
    by_cases hlt : i < D.length
    · rw [List.getElem?_append_left hlt] at ht
      have hne : t ≠ s := fun e => hi (by rw [← e]; exact List.mem_of_getElem? ht)
      obtain ⟨a1, a2⟩ := h5 i t ht
      exact ⟨by rw [Maps.has_put_other (data_ne hne)]; exact a1, fun z => by rw [Maps.atKey_put_other (data_ne hne)]; exact a2 z⟩
    · rw [List.getElem?_append_right (by omega)] at ht
      have hi0 : i - D.length = 0 := by
        cases hk : i - D.length with
        | zero => rfl
        | succ k => rw [hk] at ht; simp at ht
      rw [hi0] at ht
      simp at ht
      subst ht
      have hid : i = D.length := by omega
      subst hid
      exact ⟨Maps.has_put_same h1.isMap (key_str _) _, fun z => Maps.atKey_put_same h1.isMap (key_str _) _ z⟩

/-! ### The Reader, and the law's own list beside it -/
/-- The rows' element types and sizes, by field. -/
def ety (f : Nat) : TypeId := match f with | 2 => 9 | 5 => 4 | 7 => 3 | 8 => 52 | _ => 21
def esz (f : Nat) : Nat := match f with | 8 => 3 | _ => 1
def Fld (f : Nat) : Prop := f = 2 ∨ f = 5 ∨ f = 7 ∨ f = 8 ∨ f = 9

theorem ety_ne {f g : Nat} (hf : Fld f) (hg : Fld g) (h : f ≠ g) : ety f ≠ ety g := by
  rcases hf with rfl | rfl | rfl | rfl | rfl <;> rcases hg with rfl | rfl | rfl | rfl | rfl <;> first | exact absurd rfl h | decide
theorem ety_48 {f : Nat} (hf : Fld f) : ety f ≠ 48 := by
  rcases hf with rfl | rfl | rfl | rfl | rfl <;> decide
theorem ety_9 {f : Nat} (hf : Fld f) (h : f ≠ 2) : ety f ≠ 9 := ety_ne hf (.inl rfl) h

/-- Block B is a Reader: its fields f hold the rows X f of N f elements; block m is the map of the names M; v6 is a row of the strings E, apart from the names' row. -/
def St (w : World) (base B m : Nat) (v6 : Value) (E : List ByteArray) (X : Nat → List Value) (N : Nat → Nat) (M : List ByteArray) : Prop :=
  ∃ (C : Array Value) (V : Nat → Value), w.heap[B]? = some (.cells C 48 (0, 0)) ∧ base ≤ B ∧ C[3]? = some (.map (some m)) ∧ C[4]? = some (.slice none 0 0) ∧ C[6]? = some (.slice none 0 0) ∧
    (∀ f, Fld f → C[f]? = some (V f) ∧ w.ownsRow base (ety f) (esz f) (V f) (N f) (X f)) ∧ MapOk w m M ∧ base ≤ m ∧
    w.ownsRow base 9 1 v6 E.length (E.map Value.string) ∧ (v6.ownBlock = none ∨ v6.ownBlock ≠ (V 2).ownBlock)

theorem kinds_apart {w : World} {b1 b2 : Nat} {e1 e2 : TypeId} {s1 s2 : Nat} {v1 v2 : Value} {n1 n2 : Nat} {x1 x2 : List Value} (h1 : w.ownsRow b1 e1 s1 v1 n1 x1) (h2 : w.ownsRow b2 e2 s2 v2 n2 x2) (hne : e1 ≠ e2) : v1.ownBlock = none ∨ v1.ownBlock ≠ v2.ownBlock := by
  cases hv : v1.ownBlock with
  | none => exact .inl rfl
  | some g =>
    refine .inr fun e => hne ?_
    obtain ⟨c1, f1, k1⟩ := Lib.ownsRow_kind h1 g hv
    obtain ⟨c2, f2, k2⟩ := Lib.ownsRow_kind h2 g e.symm
    rw [k1] at k2
    simp at k2
    exact k2.2.1

theorem row_not_cells {w : World} {b : Nat} {e t : TypeId} {s : Nat} {v : Value} {n : Nat} {x : List Value} (h : w.ownsRow b e s v n x) {B : Nat} {C : Array Value} {fr : Nat × Nat} (hB : w.heap[B]? = some (.cells C t fr)) (hne : e ≠ t) : v.ownBlock ≠ some B := fun hv => by
  obtain ⟨c1, f1, k1⟩ := Lib.ownsRow_kind h B hv
  rw [k1] at hB
  simp at hB
  exact hne hB.2.1

theorem row_not_map {w : World} {b : Nat} {e : TypeId} {s : Nat} {v : Value} {n : Nat} {x : List Value} (h : w.ownsRow b e s v n x) {m : Nat} {M : List ByteArray} (hM : MapOk w m M) : v.ownBlock ≠ some m := fun hv => by
  obtain ⟨c1, f1, k1⟩ := Lib.ownsRow_kind h m hv
  obtain ⟨es, cl, k2⟩ := hM.isMap
  rw [k1] at k2
  cases k2

theorem ne_of_block {v : Value} {B : Nat} (h : v.ownBlock ≠ some B) : v.ownBlock = none ∨ v.ownBlock ≠ some B := .inr h

/-- A call that turned nothing of what was there. -/
theorem St.later {w w' : World} {base B m : Nat} {v6 : Value} {E : List ByteArray} {X : Nat → List Value} {N : Nat → Nat} {M : List ByteArray} (h : St w base B m v6 E X N M) (hb : Below w.heap.size w w') : St w' base B m v6 E X N M := by
  have hg : w.grownBy w' none := ⟨hb.os, hb.tape, hb.output, hb.size, fun k hk _ => hb.block k hk⟩
  obtain ⟨C, V, h1, h2, h3, h4, h5, h6, h7, h8, h9, h10⟩ := h
  have nn : ∀ v : Value, v.ownBlock = none ∨ v.ownBlock ≠ none := fun v => by cases v.ownBlock <;> simp
  exact ⟨C, V, by rw [hb.block B (lt_of_block h1)]; exact h1, h2, h3, h4, h5, fun f hf => ⟨(h6 f hf).1, (h6 f hf).2.kept hg (nn _)⟩, h7.kept hg (by simp), h8, h9.kept hg (nn _), h10⟩

/-- The map has been written. -/
theorem St.mapped {w w' : World} {base B m : Nat} {v6 : Value} {E : List ByteArray} {X : Nat → List Value} {N : Nat → Nat} {M M' : List ByteArray} (h : St w base B m v6 E X N M) (hg : w.grownBy w' (some m)) (hM : MapOk w' m M') : St w' base B m v6 E X N M' := by
  obtain ⟨C, V, h1, h2, h3, h4, h5, h6, h7, h8, h9, h10⟩ := h
  have hBm : B ≠ m := fun e => by
    obtain ⟨es, cl, k2⟩ := h7.isMap
    rw [← e, h1] at k2
    cases k2
  exact ⟨C, V, by rw [hg.block B (lt_of_block h1) (by simpa using hBm)]; exact h1, h2, h3, h4, h5, fun f hf => ⟨(h6 f hf).1, (h6 f hf).2.kept hg (ne_of_block (row_not_map (h6 f hf).2 h7))⟩, hM, h8, h9.kept hg (ne_of_block (row_not_map h9 h7)), h10⟩

def upd {α : Type} (F : Nat → α) (f : Nat) (x : α) : Nat → α := fun k => if k = f then x else F k
theorem upd_same {α : Type} (F : Nat → α) (f : Nat) (x : α) : upd F f x f = x := by simp [upd]
theorem upd_other {α : Type} (F : Nat → α) {f k : Nat} (x : α) (h : k ≠ f) : upd F f x k = F k := by simp [upd, h]

/-- A field's row has been appended to, and the field written. -/
theorem put_field {w w' : World} {base B m : Nat} {v6 : Value} {E : List ByteArray} {X : Nat → List Value} {N : Nat → Nat} {M : List ByteArray} {C : Array Value} {V : Nat → Value}
    (h1 : w.heap[B]? = some (.cells C 48 (0, 0))) (h2 : base ≤ B) (h3 : C[3]? = some (.map (some m))) (h4 : C[4]? = some (.slice none 0 0)) (h5 : C[6]? = some (.slice none 0 0))
    (h6 : ∀ f, Fld f → C[f]? = some (V f) ∧ w.ownsRow base (ety f) (esz f) (V f) (N f) (X f)) (h7 : MapOk w m M) (h8 : base ≤ m) (h9 : w.ownsRow base 9 1 v6 E.length (E.map Value.string)) (h10 : v6.ownBlock = none ∨ v6.ownBlock ≠ (V 2).ownBlock)
    {f : Nat} (hf : Fld f) {g n' cap' : Nat} {x' : List Value} (hg : w.grownBy w' (V f).ownBlock) (hown : w'.ownsRow base (ety f) (esz f) (.slice (some ⟨g, 0, none⟩) n' cap') n' x') (hat : (V f).ownBlock = some g ∨ w.heap.size ≤ g) :
    St (w'.setCell ⟨B, f, none⟩ (.slice (some ⟨g, 0, none⟩) n' cap')) base B m v6 E (upd X f x') (upd N f n') M := by
  have nB := row_not_cells (h6 f hf).2 h1 (ety_48 hf)
  have nm := row_not_map (h6 f hf).2 h7
  have hBm : B ≠ m := fun e => by
    obtain ⟨es, cl, k2⟩ := h7.isMap
    rw [← e, h1] at k2
    cases k2
  have hB' : w'.heap[B]? = some (.cells C 48 (0, 0)) := by rw [hg.block B (lt_of_block h1) (fun e => nB e.symm)]; exact h1
  have hfl : f < C.size := by
    have := (h6 f hf).1
    exact (Array.getElem?_eq_some_iff.1 this).1
  have get : ∀ k, k ≠ f → (C.setIfInBounds f (.slice (some ⟨g, 0, none⟩) n' cap'))[k]? = C[k]? := fun k hk => by
    rw [Array.getElem?_setIfInBounds]
    simp [Ne.symm hk]
  have fne : ∀ k, k = 3 ∨ k = 4 ∨ k = 6 → k ≠ f := fun k hk e => by
    subst e
    rcases hf with h | h | h | h | h <;> omega
  have hoB : ∀ {e : TypeId} {s n : Nat} {v : Value} {x : List Value}, w'.ownsRow base e s v n x → e ≠ 48 → (w'.setCell ⟨B, f, none⟩ (.slice (some ⟨g, 0, none⟩) n' cap')).ownsRow base e s v n x := fun hr he => ownsRow_setCell_other hr (row_not_cells hr hB' he) _
  refine ⟨C.setIfInBounds f (.slice (some ⟨g, 0, none⟩) n' cap'), upd V f (.slice (some ⟨g, 0, none⟩) n' cap'), heap_setCell_same _ _ _ _ _ _ hB', h2, by rw [get 3 (fne 3 (by simp))]; exact h3, by rw [get 4 (fne 4 (by simp))]; exact h4, by rw [get 6 (fne 6 (by simp))]; exact h5, ?_, ?_, h8, ?_, ?_⟩
  · intro k hk
    by_cases e : k = f
    · subst e
      rw [upd_same, upd_same, upd_same]
      exact ⟨by simp [hfl], hoB hown (ety_48 hk)⟩
    · rw [upd_other _ _ e, upd_other _ _ e, upd_other _ _ e]
      exact ⟨by rw [get k e]; exact (h6 k hk).1, hoB ((h6 k hk).2.kept hg (kinds_apart (h6 k hk).2 (h6 f hf).2 (ety_ne hk hf e))) (ety_48 hk)⟩
  · exact (h7.kept hg (fun e => nm e.symm)).setCell (fun e => hBm e.symm) _
  · have hne : v6.ownBlock = none ∨ v6.ownBlock ≠ (V f).ownBlock := by
      by_cases e : f = 2
      · subst e; exact h10
      · exact kinds_apart h9 (h6 f hf).2 (Ne.symm (ety_9 hf e))
    exact hoB (h9.kept hg hne) (by decide)
  · by_cases e : f = 2
    · subst e
      rw [upd_same]
      cases hv : v6.ownBlock with
      | none => exact .inl rfl
      | some k6 =>
        refine .inr fun e => ?_
        have e' : k6 = g := by simpa [Value.ownBlock] using e
        subst e'
        rcases hat with h | h
        · rw [hv, h] at h10
          rcases h10 with h | h
          · cases h
          · exact h rfl
        · have := (h9.lt _ hv).2
          omega
    · rw [upd_other _ _ (Ne.symm e)]
      exact h10

/-- The law's own list has been appended to. -/
theorem St.own6 {w w' : World} {base B m : Nat} {v6 : Value} {E E' : List ByteArray} {X : Nat → List Value} {N : Nat → Nat} {M : List ByteArray} (h : St w base B m v6 E X N M)
    {g cap' : Nat} (hg : w.grownBy w' v6.ownBlock) (hown : w'.ownsRow base 9 1 (.slice (some ⟨g, 0, none⟩) E'.length cap') E'.length (E'.map Value.string)) (hat : v6.ownBlock = some g ∨ w.heap.size ≤ g) :
    St w' base B m (.slice (some ⟨g, 0, none⟩) E'.length cap') E' X N M := by
  obtain ⟨C, V, h1, h2, h3, h4, h5, h6, h7, h8, h9, h10⟩ := h
  have nB := row_not_cells h9 h1 (by decide)
  have nm := row_not_map h9 h7
  have sym : (V 2).ownBlock = none ∨ (V 2).ownBlock ≠ v6.ownBlock := by
    cases hv : (V 2).ownBlock with
    | none => exact .inl rfl
    | some k =>
      refine .inr fun e => ?_
      rw [← e, hv] at h10
      rcases h10 with h | h
      · cases h
      · exact h rfl
  refine ⟨C, V, by rw [hg.block B (lt_of_block h1) (fun e => nB e.symm)]; exact h1, h2, h3, h4, h5, fun f hf => ⟨(h6 f hf).1, (h6 f hf).2.kept hg ?_⟩, h7.kept hg (fun e => nm e.symm), h8, hown, ?_⟩
  · by_cases e : f = 2
    · subst e; exact sym
    · exact kinds_apart (h6 f hf).2 h9 (ety_9 hf e)
  · refine .inr fun e => ?_
    have e' : (V 2).ownBlock = some g := by simpa [Value.ownBlock] using e.symm
    rcases hat with h | h
    · rw [e', h] at sym
      rcases sym with h | h
      · cases h
      · exact h rfl
    · have := ((h6 2 (.inl rfl)).2.lt _ e').2
      omega
end Go.Proofs.Ybulkkew
