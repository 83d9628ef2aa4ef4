/-
  Prepend told once for both of its ways; the notes that the law takes of the first result (two rows of its own).
-/
import Derived.Test.Qxb6604577aExact
namespace Go.Proofs.Qxb6604577a
open Go.RowKit

/-- What Prepend(x) hands back. -/
def Prepended (w : World) (x : Int) (n : Nat) (X : Nat → List Int) (e : Ending) (w' : World) : Prop :=
  ∃ g m cap T' A' X' C', e = .returned (.slice (some ⟨g, 0, none⟩) m cap) ∧ 1 ≤ m ∧ n ≤ m ∧ m ≤ n + 1 ∧ m ≤ cap ∧ PathAt w' g 0 m T' A' X' C' ∧ T' 0 = 2 ∧ (∃ r, X' 0 = x :: r) ∧ (X' 0).length ≤ 255 ∧ flat X' m = x :: flat X n ∧ Below w.heap.size w w'
theorem prepend_any (w : World) (PA : Option Addr) (g n pc : Nat) (x : Int) (T : Nat → Int) (A : Nat → Option Addr) (X : Nat → List Int) (C : Nat → Nat) (hP0 : PA = none → n = 0 ∧ pc = 0) (hPA : 0 < n → PA = some ⟨g, 0, none⟩) (hpc : n ≤ pc) (hp : PathAt w g 0 n T A X C) (hn : n ≤ 2097152) :
    Calls Try.prog 10 #[.slice PA n pc, .int .u32 x] w (Prepended w x n X) := by
  by_cases ho : n = 0 ∨ T 0 ≠ 2 ∨ 255 ≤ (X 0).length
  · refine (prepend_open w PA g n pc x T A X C hP0 hPA hp hn ho).mono ?_
    rintro e w' ⟨gq, cap, a0, c0, rfl, hcap, hq, hb⟩
    exact ⟨gq, n + 1, cap, _, _, _, _, rfl, by omega, by omega, by omega, hcap, hq, rfl, ⟨[], rfl⟩, (show ([x] : List Int).length ≤ 255 by simp), flat_cons [x] X n, hb⟩
  · have h2 : T 0 = 2 := by
      rcases Int.lt_trichotomy (T 0) 2 with h | h | h
      · exact absurd (Or.inr (Or.inl (by omega))) ho
      · exact h
      · exact absurd (Or.inr (Or.inl (by omega))) ho
    obtain ⟨m, rfl⟩ : ∃ m, n = m + 1 := ⟨n - 1, by omega⟩
    obtain rfl := hPA (by omega)
    refine (prepend_join w g m pc x T A X C hp (by omega) hpc h2 (by omega)).mono ?_
    rintro e w' ⟨gq, cap, a0, c0, rfl, hcap, hq, hb⟩
    exact ⟨gq, m + 1, cap, _, _, _, _, rfl, by omega, by omega, by omega, hcap, hq, rfl, ⟨X 0, rfl⟩, by show (x :: X 0).length ≤ 255; simp; omega, flat_join x X m, hb⟩

/-- The first k types and lengths are noted, in the two blocks laid at W. -/
def Noted (W : World) (m : Nat) (T : Nat → Int) (X : Nat → List Int) (k : Nat) (wr : World) : Prop :=
  ∃ ct cl : Array Value, Below W.heap.size W wr ∧ W.heap.size + 1 < wr.heap.size ∧ wr.heap[W.heap.size]? = some (.cells ct 5 (0, 0)) ∧ ct.size = m ∧ wr.heap[W.heap.size + 1]? = some (.cells cl 3 (0, 0)) ∧ cl.size = m ∧
    (∀ i, i < k → ct[i]? = some (.int .u8 (T i))) ∧ ∀ i, i < k → cl[i]? = some (.int .i64 (X i).length)
theorem noted_zero (W : World) (m : Nat) (T : Nat → Int) (X : Nat → List Int) : Noted W m T X 0 ((W.alloc (.cells (madeCells #[.int .u8 0] m) 5)).alloc (.cells (madeCells #[.int .i64 0] m) 3)) := by
  refine ⟨madeCells #[.int .u8 0] m, madeCells #[.int .i64 0] m, ((Below.refl W.heap.size W).alloc (Nat.le_refl _) _).alloc (by simp) _, by simp, ?_, size_madeCells _ _, ?_, size_madeCells _ _, fun _ h => absurd h (Nat.not_lt_zero _), fun _ h => absurd h (Nat.not_lt_zero _)⟩
  · rw [Below.heap_alloc _ _ _ (by simp)]; exact blk_new _ _
  · have h := blk_new (W.alloc (.cells (madeCells #[.int .u8 0] m) 5)) (.cells (madeCells #[.int .i64 0] m) 3)
    have e : (W.alloc (.cells (madeCells #[.int .u8 0] m) 5)).heap.size = W.heap.size + 1 := by simp
    rw [e] at h
    exact h
theorem noted_step {W wr : World} {m k : Nat} {T : Nat → Int} {X : Nat → List Int} (hk : k < m) (h : Noted W m T X k wr) :
    Noted W m T X (k + 1) ((wr.setCell ⟨W.heap.size, k, none⟩ (.int .u8 (T k))).setCell ⟨W.heap.size + 1, k, none⟩ (.int .i64 (X k).length)) := by
  obtain ⟨ct, cl, hb, hs, h1, s1, h2, s2, r1, r2⟩ := h
  refine ⟨ct.setIfInBounds k (.int .u8 (T k)), cl.setIfInBounds k (.int .i64 (X k).length), (hb.setCell (Nat.le_refl _) _).setCell (Nat.le_succ _) _, by simpa using hs, ?_, by simpa using s1, ?_, by simpa using s2, ?_, ?_⟩
  · rw [heap_setCell_other _ _ _ _ (by show W.heap.size ≠ W.heap.size + 1; omega)]
    exact heap_setCell_same _ _ _ _ _ _ h1
  · refine heap_setCell_same _ _ _ _ _ _ ?_
    rw [heap_setCell_other _ _ _ _ (by show W.heap.size + 1 ≠ W.heap.size; omega)]
    exact h2
  · intro i hi
    by_cases e : i = k
    · subst e; simp [s1, hk]
    · rw [Array.getElem?_setIfInBounds_ne (by omega)]; exact r1 i (by omega)
  · intro i hi
    by_cases e : i = k
    · subst e; simp [s2, hk]
    · rw [Array.getElem?_setIfInBounds_ne (by omega)]; exact r2 i (by omega)
/-- What the walk wants of the two rows. -/
theorem noted_cells {W wr : World} {m k : Nat} {T : Nat → Int} {X : Nat → List Int} (h : Noted W m T X k wr) {j : Nat} (hj : j < m) :
    (∃ v, wr.cell? ⟨W.heap.size, j, none⟩ = some v) ∧ (∃ v, wr.cell? ⟨W.heap.size + 1, j, none⟩ = some v) ∧ wr.frozen? ⟨W.heap.size, j, none⟩ = false ∧ wr.frozen? ⟨W.heap.size + 1, j, none⟩ = false := by
  obtain ⟨ct, cl, hb, hs, h1, s1, h2, s2, r1, r2⟩ := h
  exact ⟨⟨_, (blk_cell h1 (j := j) (by omega)).1⟩, ⟨_, (blk_cell h2 (j := j) (by omega)).1⟩, (blk_cell h1 (j := j) (by omega)).2, (blk_cell h2 (j := j) (by omega)).2⟩
theorem noted_read {W wr : World} {m : Nat} {T : Nat → Int} {X : Nat → List Int} (h : Noted W m T X m wr) {j : Nat} (hj : j < m) :
    wr.cell? ⟨W.heap.size, j, none⟩ = some (.int .u8 (T j)) ∧ wr.cell? ⟨W.heap.size + 1, j, none⟩ = some (.int .i64 (X j).length) := by
  obtain ⟨ct, cl, hb, hs, h1, s1, h2, s2, r1, r2⟩ := h
  refine ⟨?_, ?_⟩
  · have := (blk_cell h1 (j := j) (by omega)).1
    rw [this]
    have := r1 j hj
    rw [Array.getElem?_eq_getElem (by omega)] at this
    exact this
  · have := (blk_cell h2 (j := j) (by omega)).1
    rw [this]
    have := r2 j hj
    rw [Array.getElem?_eq_getElem (by omega)] at this
    exact this
end Go.Proofs.Qxb6604577a
