/-
  An ASPath's cells as one list; from an owned row to 'PathAt'; one segment put in front.
-/
import Derived.Test.Qxb6604577aSmall
namespace Go.Proofs.Qxb6604577a
open Go.RowKit

def cons {α : Type} (a : α) (f : Nat → α) : Nat → α
  | 0 => a
  | i + 1 => f i
def pcell (T : Nat → Int) (A : Nat → Option Addr) (X : Nat → List Int) (C : Nat → Nat) (j : Nat) : Value :=
  if j % 2 = 0 then .int .u8 (T (j / 2)) else .slice (A (j / 2)) (X (j / 2)).length (C (j / 2))
def pcells (T : Nat → Int) (A : Nat → Option Addr) (X : Nat → List Int) (C : Nat → Nat) (m : Nat) : List Value := (List.range (m * 2)).map (pcell T A X C)
theorem pcells_length (T : Nat → Int) (A : Nat → Option Addr) (X : Nat → List Int) (C : Nat → Nat) (m : Nat) : (pcells T A X C m).length = m * 2 := by simp [pcells]
theorem pcells_at (T : Nat → Int) (A : Nat → Option Addr) (X : Nat → List Int) (C : Nat → Nat) (m j : Nat) (h : j < m * 2) : (pcells T A X C m)[j]? = some (pcell T A X C j) := by
  simp [pcells, h]
theorem pcells_one (T : Nat → Int) (A : Nat → Option Addr) (X : Nat → List Int) (C : Nat → Nat) (m : Nat) : ∀ u ∈ pcells T A X C m, u.oneCell' = true := by
  intro u hu
  obtain ⟨j, _, rfl⟩ := List.mem_map.1 hu
  unfold pcell
  split <;> rfl
theorem pcells_cons (t : Int) (a : Option Addr) (x : List Int) (c : Nat) (T : Nat → Int) (A : Nat → Option Addr) (X : Nat → List Int) (C : Nat → Nat) (n : Nat) :
    [.int .u8 t, .slice a x.length c] ++ pcells T A X C n = pcells (cons t T) (cons a A) (cons x X) (cons c C) (n + 1) := by
  apply List.ext_getElem?
  intro j
  match j with
  | 0 => rw [pcells_at _ _ _ _ _ _ (by omega)]; rfl
  | 1 => rw [pcells_at _ _ _ _ _ _ (by omega)]; rfl
  | j + 2 =>
    rw [List.getElem?_append_right (by simp)]
    simp only [List.length_cons, List.length_nil, Nat.add_sub_cancel]
    have e1 : (j + 2) % 2 = j % 2 := by omega
    have e2 : (j + 2) / 2 = j / 2 + 1 := by omega
    by_cases h : j < n * 2
    · rw [pcells_at _ _ _ _ _ _ h, pcells_at _ _ _ _ _ _ (by omega)]
      unfold pcell
      rw [e1, e2]
      rfl
    · rw [List.getElem?_eq_none (by rw [pcells_length]; omega), List.getElem?_eq_none (by rw [pcells_length]; omega)]
theorem add_at (g o j : Nat) : (⟨g, o, none⟩ : Addr).add j = ⟨g, o + j, none⟩ := by unfold Addr.add; split <;> simp_all
/-- The cells of a path, for an append that reads them (from segment s on). -/
theorem path_cells {w : World} {g n : Nat} {T : Nat → Int} {A : Nat → Option Addr} {X : Nat → List Int} {C : Nat → Nat} (h : PathAt w g 0 n T A X C) : ∀ j u, (pcells T A X C n)[j]? = some u → w.cell? ((⟨g, 0, none⟩ : Addr).add j) = some u := by
  intro j u hu
  rcases Nat.lt_or_ge j (n * 2) with hj | hj
  · rw [pcells_at _ _ _ _ _ _ hj] at hu
    cases hu
    rw [add_at]
    obtain ⟨h1, h2, _⟩ := h (j / 2) (by omega)
    unfold pcell
    split
    · have e : 0 + j = 0 + j / 2 * 2 := by omega
      rw [e]; exact h1
    · have e : 0 + j = 0 + j / 2 * 2 + 1 := by omega
      rw [e]; exact h2
  · rw [List.getElem?_eq_none (by rw [pcells_length]; omega)] at hu; cases hu
theorem tail_cells {w : World} {g n : Nat} {T : Nat → Int} {A : Nat → Option Addr} {X : Nat → List Int} {C : Nat → Nat} (h : PathAt w g 0 (n + 1) T A X C) : ∀ j u, (pcells (fun i => T (i + 1)) (fun i => A (i + 1)) (fun i => X (i + 1)) (fun i => C (i + 1)) n)[j]? = some u → w.cell? ((⟨g, 2, none⟩ : Addr).add j) = some u := by
  intro j u hu
  rcases Nat.lt_or_ge j (n * 2) with hj | hj
  · rw [pcells_at _ _ _ _ _ _ hj] at hu
    cases hu
    rw [add_at]
    obtain ⟨h1, h2, _⟩ := h (j / 2 + 1) (by omega)
    unfold pcell
    split
    · have e : 2 + j = 0 + (j / 2 + 1) * 2 := by omega
      rw [e]; exact h1
    · have e : 2 + j = 0 + (j / 2 + 1) * 2 + 1 := by omega
      rw [e]; exact h2
  · rw [List.getElem?_eq_none (by rw [pcells_length]; omega)] at hu; cases hu
/-- An owned row of segments is a path. -/
theorem path_of_own {w : World} {base : Nat} {v : Value} {m : Nat} {T : Nat → Int} {A : Nat → Option Addr} {X : Nat → List Int} {C : Nat → Nat} (h : w.ownsRow base 36 2 v m (pcells T A X C m)) (hm : 0 < m) (hU : ∀ i, i < m → U32 w (A i) (X i) (C i)) :
    ∃ g cap, v = .slice (some ⟨g, 0, none⟩) m cap ∧ m ≤ cap ∧ PathAt w g 0 m T A X C := by
  obtain ⟨g, cap, rfl, hcap⟩ : ∃ g cap, v = .slice (some ⟨g, 0, none⟩) m cap ∧ m ≤ cap := by
    rcases h.2 with ⟨_, h0⟩ | ⟨g, cap, cur, hv, _, _, hc, _⟩
    · omega
    · exact ⟨g, cap, hv, hc⟩
  refine ⟨g, cap, rfl, hcap, fun i hi => ?_⟩
  have hc := h.cells (g := g) rfl
  have h1 := hc (i * 2) _ (pcells_at T A X C m (i * 2) (by omega))
  have h2 := hc (i * 2 + 1) _ (pcells_at T A X C m (i * 2 + 1) (by omega))
  rw [add_at] at h1 h2
  unfold pcell at h1 h2
  have e1 : (i * 2) % 2 = 0 := by omega
  have e2 : (i * 2 + 1) % 2 = 1 := by omega
  have e3 : (i * 2) / 2 = i := by omega
  have e4 : (i * 2 + 1) / 2 = i := by omega
  rw [if_pos e1, e3] at h1
  rw [if_neg (by omega), e4] at h2
  exact ⟨h1, h2, hU i hi⟩
/-- A row of one segment that has just been laid. -/
theorem own_two {w : World} {base g : Nat} {c0 c1 : Value} (h : w.heap[g]? = some (.cells #[c0, c1] 36 (0, 0))) (hb : base ≤ g) : w.ownsRow base 36 2 (.slice (some ⟨g, 0, none⟩) 1 1) 1 [c0, c1] :=
  ⟨rfl, .inr ⟨g, 1, _, rfl, hb, h, Nat.le_refl _, by decide, rfl, rfl⟩⟩
theorem own_one {w : World} {base g : Nat} {c0 : Value} (h : w.heap[g]? = some (.cells #[c0] 22 (0, 0))) (hb : base ≤ g) : w.ownsRow base 22 1 (.slice (some ⟨g, 0, none⟩) 1 1) 1 [c0] :=
  ⟨rfl, .inr ⟨g, 1, _, rfl, hb, h, Nat.le_refl _, by decide, rfl, rfl⟩⟩
end Go.Proofs.Qxb6604577a
