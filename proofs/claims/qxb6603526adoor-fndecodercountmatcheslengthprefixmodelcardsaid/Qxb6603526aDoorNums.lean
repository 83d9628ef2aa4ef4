/-
  Plain laws of the uvarint decoder: its answer told by the first byte without the bit 128, and by Horner's sum downwards from that byte. No program in this text.
-/
import Derived.Lib.VarintDec
import Derived.Laws.BitsAllLaws
namespace Go.Proofs.Qxb6603526aDoor

/-- Byte i, 0 behind the end. -/
def at8 (l : List UInt8) (i : Nat) : Nat := (l.getD i 0).toNat
theorem at8_cons_zero (b : UInt8) (r : List UInt8) : at8 (b :: r) 0 = b.toNat := rfl
theorem at8_cons_succ (b : UInt8) (r : List UInt8) (i : Nat) : at8 (b :: r) (i + 1) = at8 r i := rfl
theorem at8_get (l : List UInt8) (i : Nat) (h : i < l.length) : at8 l i = (l[i]).toNat := by
  simp [at8, List.getD, h]
theorem at8_lt (l : List UInt8) (i : Nat) : at8 l i < 256 := UInt8.toNat_lt _

/-- Horner downwards: d steps below byte k. -/
def horner (l : List UInt8) (k : Nat) : Nat → Nat
  | 0 => at8 l k
  | d + 1 => horner l k d * 128 + at8 l (k - (d + 1)) % 128
theorem horner_cons (b : UInt8) (r : List UInt8) (k : Nat) : ∀ d, d ≤ k → horner (b :: r) (k + 1) d = horner r k d
  | 0, _ => rfl
  | d + 1, h => by
    rw [horner, horner, horner_cons b r k d (by omega)]
    have e : k + 1 - (d + 1) = (k - (d + 1)) + 1 := by omega
    rw [e, at8_cons_succ]
theorem horner_lt (l : List UInt8) (k : Nat) (B : Nat) (hB : at8 l k ≤ B) : ∀ d, horner l k d < (B + 1) * 128 ^ d
  | 0 => by simp [horner]; omega
  | d + 1 => by
    have ih := horner_lt l k B hB d
    have hm := Nat.mod_lt (at8 l (k - (d + 1))) (show 0 < 128 by decide)
    rw [horner, Nat.pow_succ, ← Nat.mul_assoc]
    omega

/-- The first byte below 128 is byte k. -/
def FirstAt (l : List UInt8) (k : Nat) : Prop := k < l.length ∧ at8 l k < 128 ∧ ∀ t, t < k → 128 ≤ at8 l t

theorem from_first : ∀ (l : List UInt8) (k i acc : Nat), FirstAt l k → i + k ≤ 9 → ¬ (i + k = 9 ∧ 1 < at8 l k) → Lib.uvarintFrom i acc l = (acc + horner l k k * 2 ^ (7 * i), (i : Int) + k + 1)
  | [], k, _, _, h, _, _ => by have := h.1; simp at this
  | b :: r, 0, i, acc, h, hi, hn => by
    have h1 : b.toNat < 128 := h.2.1
    have h2 : ¬ (i = 9 ∧ 1 < b.toNat) := hn
    rw [Lib.uvarintFrom, if_neg (by omega), if_pos h1, if_neg h2]
    simp [horner, at8]
  | b :: r, k + 1, i, acc, h, hi, hn => by
    have h1 : ¬ b.toNat < 128 := by have := h.2.2 0 (by omega); rw [at8_cons_zero] at this; omega
    have hf : FirstAt r k := by
      refine ⟨by have := h.1; simp at this; omega, by have := h.2.1; rwa [at8_cons_succ] at this, fun t ht => ?_⟩
      have := h.2.2 (t + 1) (by omega)
      rwa [at8_cons_succ] at this
    rw [Lib.uvarintFrom, if_neg (by omega), if_neg h1, from_first r k (i + 1) _ hf (by omega) (by rw [at8_cons_succ] at hn; intro hc; exact hn ⟨by omega, hc.2⟩)]
    rw [horner, horner_cons b r k k (Nat.le_refl _), Nat.sub_self, at8_cons_zero]
    have e : 2 ^ (7 * (i + 1)) = 128 * 2 ^ (7 * i) := by rw [Nat.mul_add, Nat.pow_add, Nat.mul_comm]
    rw [e]
    refine Prod.ext ?_ ?_
    · show acc + b.toNat % 128 * 2 ^ (7 * i) + horner r k k * (128 * 2 ^ (7 * i)) = acc + (horner r k k * 128 + b.toNat % 128) * 2 ^ (7 * i)
      rw [Nat.add_mul, Nat.mul_assoc]; omega
    · show ((i + 1 : Nat) : Int) + (k : Int) + 1 = (i : Int) + ((k + 1 : Nat) : Int) + 1
      omega
theorem dec_first (l : List UInt8) (k : Nat) (h : FirstAt l k) (hk : k ≤ 9) (hn : ¬ (k = 9 ∧ 1 < at8 l k)) : Lib.uvarintDec l = (horner l k k, (k : Int) + 1) := by
  rw [Lib.uvarintDec, from_first l k 0 0 h (by omega) (by simpa using hn)]
  simp
theorem from_over : ∀ (l : List UInt8) (k i acc : Nat), FirstAt l k → i + k = 9 → 1 < at8 l k → (Lib.uvarintFrom i acc l).2 ≤ 0
  | [], k, _, _, h, _, _ => by have := h.1; simp at this
  | b :: r, 0, i, acc, h, hi, hn => by
    have h1 : b.toNat < 128 := h.2.1
    have h2 : i = 9 ∧ 1 < b.toNat := ⟨by omega, hn⟩
    rw [Lib.uvarintFrom, if_neg (by omega), if_pos h1, if_pos h2]
    show -((i : Int) + 1) ≤ 0
    omega
  | b :: r, k + 1, i, acc, h, hi, hn => by
    have h1 : ¬ b.toNat < 128 := by have := h.2.2 0 (by omega); rw [at8_cons_zero] at this; omega
    have hf : FirstAt r k := by
      refine ⟨by have := h.1; simp at this; omega, by have := h.2.1; rwa [at8_cons_succ] at this, fun t ht => ?_⟩
      have := h.2.2 (t + 1) (by omega)
      rwa [at8_cons_succ] at this
    rw [Lib.uvarintFrom, if_neg (by omega), if_neg h1]
    exact from_over r k (i + 1) _ hf (by omega) (by rwa [at8_cons_succ] at hn)
theorem dec_over (l : List UInt8) (h : FirstAt l 9) (hn : 1 < at8 l 9) : (Lib.uvarintDec l).2 ≤ 0 := from_over l 9 0 0 h rfl hn
theorem from_none : ∀ (l : List UInt8) (i acc : Nat), i ≤ 10 → (∀ t, i + t < 10 → t < l.length → 128 ≤ at8 l t) → (Lib.uvarintFrom i acc l).2 ≤ 0
  | [], i, acc, _, _ => by simp [Lib.uvarintFrom]
  | b :: r, i, acc, hi, h => by
    by_cases h10 : i = 10
    · rw [Lib.uvarintFrom, if_pos h10]
      show -((i : Int) + 1) ≤ 0
      omega
    · have h1 : ¬ b.toNat < 128 := by have := h 0 (by omega) (by simp); rw [at8_cons_zero] at this; omega
      rw [Lib.uvarintFrom, if_neg h10, if_neg h1]
      refine from_none r (i + 1) _ (by omega) (fun t ht hl => ?_)
      have := h (t + 1) (by omega) (by simp; omega)
      rwa [at8_cons_succ] at this
theorem dec_none (l : List UInt8) (h : ∀ t, t < 10 → t < l.length → 128 ≤ at8 l t) : (Lib.uvarintDec l).2 ≤ 0 := from_none l 0 0 (by omega) (by simpa using h)

/-- One of the two: no byte below 128 among the first ten, or a first one. -/
theorem first_or (l : List UInt8) : (∀ t, t < 10 → t < l.length → 128 ≤ at8 l t) ∨ ∃ k, k ≤ 9 ∧ FirstAt l k := by
  have : ∀ m, m ≤ 10 → (∀ t, t < m → t < l.length → 128 ≤ at8 l t) ∨ ∃ k, k < m ∧ FirstAt l k := by
    intro m
    induction m with
    | zero => intro _; left; intro t ht; omega
    | succ m ih =>
      intro hm
      rcases ih (by omega) with h | ⟨k, hk, hf⟩
      · by_cases hl : m < l.length
        · by_cases hb : at8 l m < 128
          · right
            exact ⟨m, by omega, hl, hb, fun t ht => h t ht (by omega)⟩
          · left
            intro t ht hlt
            by_cases e : t = m
            · subst e; omega
            · exact h t (by omega) hlt
        · left
          intro t ht hlt
          exact h t (by omega) hlt
      · exact Or.inr ⟨k, by omega, hf⟩
  rcases this 10 (by omega) with h | ⟨k, hk, hf⟩
  · exact Or.inl h
  · exact Or.inr ⟨k, by omega, hf⟩

/-- The Horner value fits a uint64, and each step below it does not overflow. -/
theorem horner_fits (l : List UInt8) (k : Nat) (hk : k ≤ 9) (h128 : at8 l k < 128) (hn : ¬ (k = 9 ∧ 1 < at8 l k)) (d : Nat) (hd : d ≤ k) : horner l k d < 18446744073709551616 := by
  by_cases h9 : k = 9
  · have hb : at8 l k ≤ 1 := by omega
    have := horner_lt l k 1 hb d
    have hp : 128 ^ d ≤ 128 ^ 9 := Nat.pow_le_pow_right (by decide) (by omega)
    have e : (128 : Nat) ^ 9 = 9223372036854775808 := by decide +kernel
    omega
  · have := horner_lt l k 127 (by omega) d
    have hp : 128 ^ d ≤ 128 ^ 8 := Nat.pow_le_pow_right (by decide) (by omega)
    have e : (128 : Nat) ^ 8 = 72057594037927936 := by decide +kernel
    omega
end Go.Proofs.Qxb6603526aDoor
