/-
  LawS6472BWhole: the plain part: a sorting.Property as its four cells; a row of them, one behind the other.
-/
import Derived.WalkKit
namespace Go.Proofs.Ybulkeczy
open Go.RowKit

/-- A Property as it lies in memory: Name, EventAction, the card's pointer, path. -/
structure PC where
  nm : ByteArray
  ea : ByteArray
  cp : Option Addr
  pa : ByteArray
def PC.cells (x : PC) : List Value := [.string x.nm, .string x.ea, .pointer x.cp, .string x.pa]
def PC.agg (x : PC) : Value := .agg #[.string x.nm, .string x.ea, .pointer x.cp, .string x.pa]
def zeroPC : PC := ⟨{ data := #[] }, { data := #[] }, none, { data := #[] }⟩
def flat (xs : List PC) : List Value := xs.flatMap PC.cells
theorem flat_length (xs : List PC) : (flat xs).length = xs.length * 4 := by
  induction xs with
  | nil => rfl
  | cons x xs ih => simp only [flat, List.flatMap_cons, List.length_append, PC.cells, List.length_cons, List.length_nil] at *; omega
theorem flat_get (xs : List PC) (j i : Nat) (x : PC) (hj : xs[j]? = some x) (hi : i < 4) : (flat xs)[j * 4 + i]? = x.cells[i]? := by
  induction xs generalizing j with
  | nil => simp at hj
  | cons y ys ih =>
    cases j with
    | zero =>
      simp at hj; subst hj
      simp only [flat, List.flatMap_cons, Nat.zero_mul, Nat.zero_add]
      rw [List.getElem?_append_left (by simp [PC.cells]; omega)]
    | succ j =>
      simp at hj
      have := ih j hj
      simp only [flat, List.flatMap_cons] at *
      rw [List.getElem?_append_right (by simp [PC.cells]; omega)]
      rw [show (j + 1) * 4 + i - (PC.cells y).length = j * 4 + i from by simp [PC.cells]; omega]
      exact this
theorem flat_one (xs : List PC) : ∀ u ∈ flat xs, u.oneCell' = true := by
  intro u hu
  simp only [flat, List.mem_flatMap] at hu
  obtain ⟨x, _, hx⟩ := hu
  simp only [PC.cells, List.mem_cons, List.not_mem_nil, or_false] at hx
  rcases hx with rfl | rfl | rfl | rfl <;> rfl
/-- The row of Properties xs lies in block b. -/
def Row (w : World) (b : Nat) (xs : List PC) : Prop := ∀ j x, xs[j]? = some x →
  w.cell? ⟨b, j * 4, none⟩ = some (.string x.nm) ∧ w.cell? ⟨b, j * 4 + 1, none⟩ = some (.string x.ea) ∧ w.cell? ⟨b, j * 4 + 2, none⟩ = some (.pointer x.cp) ∧ w.cell? ⟨b, j * 4 + 3, none⟩ = some (.string x.pa)
theorem Row.of_cells {w : World} {b : Nat} {xs : List PC} (h : ∀ j u, (flat xs)[j]? = some u → w.cell? ⟨b, j, none⟩ = some u) : Row w b xs := fun j x hj =>
  ⟨h _ _ ((flat_get xs j 0 x hj (by omega)).trans rfl), h _ _ ((flat_get xs j 1 x hj (by omega)).trans rfl), h _ _ ((flat_get xs j 2 x hj (by omega)).trans rfl), h _ _ ((flat_get xs j 3 x hj (by omega)).trans rfl)⟩
theorem Row.below {w w' : World} {b : Nat} {xs : List PC} {B : Nat} (h : Row w b xs) (hb : Below B w w') (hB : b < B) : Row w' b xs := fun j x hj => by
  obtain ⟨h0, h1, h2, h3⟩ := h j x hj
  exact ⟨(hb.cell (p := ⟨b, j * 4, none⟩) hB).trans h0, (hb.cell (p := ⟨b, j * 4 + 1, none⟩) hB).trans h1, (hb.cell (p := ⟨b, j * 4 + 2, none⟩) hB).trans h2, (hb.cell (p := ⟨b, j * 4 + 3, none⟩) hB).trans h3⟩

theorem flat_set (xs : List PC) (k : Nat) (x : PC) : ((((flat xs).set (k * 4) (.string x.nm)).set (k * 4 + 1) (.string x.ea)).set (k * 4 + 2) (.pointer x.cp)).set (k * 4 + 3) (.string x.pa) = flat (xs.set k x) := by
  induction xs generalizing k with
  | nil => simp [flat]
  | cons y ys ih =>
    cases k with
    | zero => simp [flat, PC.cells]
    | succ k =>
      have := ih k
      simp only [flat, List.flatMap_cons, List.set_cons_succ] at *
      rw [← this]
      rw [show (k + 1) * 4 = k * 4 + 4 from by omega]
      simp [PC.cells]
theorem flat_snoc (xs : List PC) (x : PC) : flat (xs ++ [x]) = flat xs ++ x.cells := by simp [flat]
theorem made_flat (n : Nat) : (madeCells #[.string { data := #[] }, .string { data := #[] }, .pointer none, .string { data := #[] }] (n * 4)).toList = flat (List.replicate n zeroPC) := by
  apply List.ext_getElem?
  intro i
  have hl : (flat (List.replicate n zeroPC)).length = n * 4 := by rw [flat_length]; simp
  by_cases h : i < n * 4
  · have hg : (flat (List.replicate n zeroPC))[i]? = zeroPC.cells[i % 4]? := by
      have := flat_get (List.replicate n zeroPC) (i / 4) (i % 4) zeroPC (by rw [List.getElem?_replicate, if_pos (by omega)]) (by omega)
      rwa [show i / 4 * 4 + i % 4 = i from by omega] at this
    rw [hg]
    have h4 : i % 4 = 0 ∨ i % 4 = 1 ∨ i % 4 = 2 ∨ i % 4 = 3 := by omega
    rw [madeCells]
    simp only [Array.toList_map, List.getElem?_map, Array.getElem?_toList, Array.getElem?_range, h, if_true, Option.map_some]
    rcases h4 with h4 | h4 | h4 | h4 <;> simp [h4, PC.cells, zeroPC]
  · rw [List.getElem?_eq_none (show (madeCells _ (n * 4)).toList.length ≤ i by rw [Array.length_toList, size_madeCells]; omega), List.getElem?_eq_none (by omega)]
/-- The law's own row ps: n Properties in block B, the call's own. -/
def Own (w : World) (B n : Nat) (xs : List PC) : Prop := w.ownsRow B 38 4 (.slice (some ⟨B, 0, none⟩) n n) n (flat xs)
theorem Own.row {w : World} {B n : Nat} {xs : List PC} (h : Own w B n xs) : Row w B xs := Row.of_cells fun j u hj => (h.cellAt j (by have := (List.getElem?_eq_some_iff.1 hj).1; have := h.1; omega)).trans hj
theorem Own.len {w : World} {B n : Nat} {xs : List PC} (h : Own w B n xs) : xs.length = n := by have := h.1; rw [flat_length] at this; omega
theorem Own.lt {w : World} {B n : Nat} {xs : List PC} (h : Own w B n xs) : B < w.heap.size := (World.ownsRow.lt h B rfl).2
theorem Own.below {w w' : World} {B B' n : Nat} {xs : List PC} (h : Own w B n xs) (hb : Below B' w w') (hB : B < B') : Own w' B n xs := by
  obtain ⟨h1, h2 | ⟨g, cap, cur, hv, hg, hh, h3⟩⟩ := h
  · exact absurd h2.1 (by simp)
  · refine ⟨h1, .inr ⟨g, cap, cur, hv, hg, ?_, h3⟩⟩
    have : g = B := by simp at hv; exact hv.1.symm
    subst this
    rw [hb.block g hB]; exact hh
theorem Own.alloc {w : World} {B n : Nat} {xs : List PC} (h : Own w B n xs) (o : Obj) : Own (w.alloc o) B n xs := World.ownsRow.alloc h o
theorem Own.stored {w : World} {B n : Nat} {xs : List PC} (h : Own w B n xs) (k : Nat) (x : PC) :
    Own ((((w.setCell ⟨B, k * 4, none⟩ (.string x.nm)).setCell ⟨B, k * 4 + 1, none⟩ (.string x.ea)).setCell ⟨B, k * 4 + 2, none⟩ (.pointer x.cp)).setCell ⟨B, k * 4 + 3, none⟩ (.string x.pa)) B n (xs.set k x) := by
  have := ((((World.ownsRow.stored h (k * 4) (.string x.nm)).1.stored (k * 4 + 1) (.string x.ea)).1.stored (k * 4 + 2) (.pointer x.cp)).1.stored (k * 4 + 3) (.string x.pa)).1
  rw [flat_set] at this
  exact this

/-- Two strings of Go are equal. -/
def seq (a b : ByteArray) : Bool := a.toList == b.toList
/-- What Class.Property finds. -/
def found (xs : List PC) (nm : ByteArray) : Option PC := xs.find? fun x => seq x.nm nm
theorem found_hit {xs : List PC} {nm : ByteArray} {k : Nat} {x : PC} (hx : xs[k]? = some x) (hs : seq x.nm nm = true) (hp : ∀ j y, j < k → xs[j]? = some y → seq y.nm nm = false) : found xs nm = some x := by
  induction xs generalizing k with
  | nil => simp at hx
  | cons y ys ih =>
    cases k with
    | zero => simp at hx; subst hx; simp [found, hs]
    | succ k =>
      have h0 := hp 0 y (by omega) rfl
      simp only [found, List.find?_cons, h0]
      exact ih (k := k) (by simpa using hx) (fun j z hj hz => hp (j + 1) z (by omega) (by simpa using hz))
theorem found_miss {xs : List PC} {nm : ByteArray} (hp : ∀ (j : Nat) (y : PC), xs[j]? = some y → seq y.nm nm = false) : found xs nm = none := by
  rw [found, List.find?_eq_none]
  intro x hx
  obtain ⟨j, hj⟩ := List.getElem?_of_mem hx
  simp [hp j x hj]
/-- What the law's backward search has found when all behind J has been looked at. -/
def Idx (xs : List PC) (s : ByteArray) (J I : Int) : Prop :=
  (I = -1 ∧ ∀ (m : Nat) (x : PC), J < (m : Int) → xs[m]? = some x → seq x.nm s = false) ∨
  ∃ (m : Nat) (x : PC), I = (m : Int) ∧ J < (m : Int) ∧ xs[m]? = some x ∧ seq x.nm s = true ∧ ∀ (m' : Nat) (x' : PC), J < (m' : Int) → m' < m → xs[m']? = some x' → seq x'.nm s = false
theorem Idx.start (xs : List PC) (s : ByteArray) (n : Nat) (hn : xs.length = n) : Idx xs s ((n : Int) - 1) (-1) :=
  .inl ⟨rfl, fun m x h hx => by have := (List.getElem?_eq_some_iff.1 hx).1; omega⟩
theorem Idx.hit {xs : List PC} {s : ByteArray} {m : Nat} {x : PC} (hx : xs[m]? = some x) (hs : seq x.nm s = true) : Idx xs s ((m : Int) - 1) (m : Int) :=
  .inr ⟨m, x, rfl, by omega, hx, hs, fun m' x' h h' => by omega⟩
theorem Idx.miss {xs : List PC} {s : ByteArray} {m : Nat} {x : PC} {I : Int} (h : Idx xs s (m : Int) I) (hx : xs[m]? = some x) (hs : seq x.nm s = false) : Idx xs s ((m : Int) - 1) I := by
  rcases h with ⟨rfl, h⟩ | ⟨j, y, rfl, h1, h2, h3, h4⟩
  · refine .inl ⟨rfl, fun j y hj hy => ?_⟩
    by_cases e : j = m
    · subst e; rw [hx] at hy; cases hy; exact hs
    · exact h j y (by omega) hy
  · refine .inr ⟨j, y, rfl, by omega, h2, h3, fun j' y' hj hl hy => ?_⟩
    by_cases e : j' = m
    · subst e; rw [hx] at hy; cases hy; exact hs
    · exact h4 j' y' (by omega) hl hy
theorem Idx.fin {xs : List PC} {s : ByteArray} {I : Int} (h : Idx xs s (-1) I) : (I = -1 ∧ found xs s = none) ∨ ∃ (m : Nat) (x : PC), I = (m : Int) ∧ xs[m]? = some x ∧ found xs s = some x := by
  rcases h with ⟨rfl, h⟩ | ⟨j, y, rfl, _, h2, h3, h4⟩
  · exact .inl ⟨rfl, found_miss fun j y hy => h j y (by omega) hy⟩
  · exact .inr ⟨j, y, rfl, h2, found_hit h2 h3 fun j' y' hl hy => h4 j' y' (by omega) hl hy⟩
theorem Idx.bound {xs : List PC} {s : ByteArray} {J I : Int} (h : Idx xs s J I) : -1 ≤ I ∧ I < 9223372036854775807 ∨ ¬ xs.length ≤ 1048576 := by
  rcases h with ⟨rfl, _⟩ | ⟨j, y, rfl, _, h2, _⟩
  · left; omega
  · have := (List.getElem?_eq_some_iff.1 h2).1
    omega

/-- Four cells in block g, that may be written. -/
def Quad (w : World) (g : Nat) (x : PC) : Prop :=
  (w.cell? ⟨g, 0, none⟩ = some (.string x.nm) ∧ w.cell? ⟨g, 1, none⟩ = some (.string x.ea) ∧ w.cell? ⟨g, 2, none⟩ = some (.pointer x.cp) ∧ w.cell? ⟨g, 3, none⟩ = some (.string x.pa)) ∧
  (w.frozen? ⟨g, 0, none⟩ = false ∧ w.frozen? ⟨g, 1, none⟩ = false ∧ w.frozen? ⟨g, 2, none⟩ = false ∧ w.frozen? ⟨g, 3, none⟩ = false)
theorem Quad.below {w w' : World} {g : Nat} {x : PC} {B : Nat} (h : Quad w g x) (hb : Below B w w') (hB : g < B) : Quad w' g x := by
  obtain ⟨⟨h0, h1, h2, h3⟩, f0, f1, f2, f3⟩ := h
  exact ⟨⟨(hb.cell (p := ⟨g, 0, none⟩) hB).trans h0, (hb.cell (p := ⟨g, 1, none⟩) hB).trans h1, (hb.cell (p := ⟨g, 2, none⟩) hB).trans h2, (hb.cell (p := ⟨g, 3, none⟩) hB).trans h3⟩,
    (hb.frozen (p := ⟨g, 0, none⟩) hB).trans f0, (hb.frozen (p := ⟨g, 1, none⟩) hB).trans f1, (hb.frozen (p := ⟨g, 2, none⟩) hB).trans f2, (hb.frozen (p := ⟨g, 3, none⟩) hB).trans f3⟩
end Go.Proofs.Ybulkeczy
