/-
  Plain laws of the decimal numeral: its value read back digit by digit, its digits' range, its first digit, its length. Of the model: the library's 'decDigits' and the words for a uint64's complement.
-/
import Derived.Lib.ItoaLen
import Derived.Laws.BitsAllLaws
import Derived.RowKit
namespace Go.Proofs.Qxb6604495aDoor
open Go.RowKit
def val (l : List UInt8) : Int := l.foldl (fun a c => a * 10 + ((c.toNat : Int) - 48)) 0
theorem val_snoc (l : List UInt8) (c : UInt8) : val (l ++ [c]) = val l * 10 + ((c.toNat : Int) - 48) := by
  simp [val, List.foldl_append]
theorem ofNat_toNat (d : Nat) (h : d < 10) : (UInt8.ofNat (48 + d)).toNat = 48 + d := by
  simp; omega
theorem val_dec (u : Nat) : val (Lib.decDigits u) = u := by
  induction u using Nat.strongRecOn with
  | _ u ih =>
    rw [Lib.decDigits]
    by_cases h : u < 10
    · rw [dif_pos h]
      have := ofNat_toNat u h
      simp only [val, List.foldl_cons, List.foldl_nil, this]; omega
    · rw [dif_neg h, val_snoc, ih (u / 10) (by omega), ofNat_toNat (u % 10) (by omega)]; omega
theorem digit_dec (u : Nat) : ∀ c ∈ Lib.decDigits u, 48 ≤ (c.toNat : Int) ∧ (c.toNat : Int) ≤ 57 := by
  induction u using Nat.strongRecOn with
  | _ u ih =>
    rw [Lib.decDigits]
    by_cases h : u < 10
    · rw [dif_pos h]
      have := ofNat_toNat u h
      intro c hc
      rw [List.mem_singleton] at hc
      rw [hc, this]; omega
    · rw [dif_neg h]
      intro c hc
      rcases List.mem_append.1 hc with hc | hc
      · exact ih (u / 10) (by omega) c hc
      · rw [List.mem_singleton] at hc
        rw [hc, ofNat_toNat (u % 10) (by omega)]; omega
theorem first_dec (u : Nat) (hu : 1 ≤ u) : ∃ c r, Lib.decDigits u = c :: r ∧ 49 ≤ (c.toNat : Int) := by
  induction u using Nat.strongRecOn with
  | _ u ih =>
    rw [Lib.decDigits]
    by_cases h : u < 10
    · rw [dif_pos h]
      have := ofNat_toNat u h
      exact ⟨_, [], rfl, by rw [this]; omega⟩
    · rw [dif_neg h]
      obtain ⟨c, r, hc, h2⟩ := ih (u / 10) (by omega) (by omega)
      exact ⟨c, _, by rw [hc]; rfl, h2⟩
theorem length_dec (u : Nat) (h : u ≤ 9223372036854775808) (hu : 1 ≤ u) : (Lib.decDigits u).length ≤ 19 := by
  rw [Lib.decDigits_length]
  have : ∀ (k u : Nat), u < 10 ^ (k + 1) → Lib.nDigits u ≤ k + 1 := by
    intro k
    induction k with
    | zero => intro u h; rw [Lib.nDigits_small (by simpa using h)]; exact Nat.le_refl _
    | succ k ih =>
      intro u h
      by_cases h10 : u < 10
      · rw [Lib.nDigits_small h10]; omega
      · rw [Lib.nDigits_big h10]
        have := ih (u / 10) (by rw [Nat.pow_succ] at h; omega)
        omega
  exact this 18 u (by omega)
theorem val_nonneg (l : List UInt8) (h : ∀ c ∈ l, 48 ≤ (c.toNat : Int) ∧ (c.toNat : Int) ≤ 57) : 0 ≤ val l ∧ val l < 10 ^ l.length := by
  have : ∀ (l : List UInt8) (a : Int), (∀ c ∈ l, 48 ≤ (c.toNat : Int) ∧ (c.toNat : Int) ≤ 57) → 0 ≤ a → 0 ≤ l.foldl (fun a c => a * 10 + ((c.toNat : Int) - 48)) a ∧ l.foldl (fun a c => a * 10 + ((c.toNat : Int) - 48)) a < (a + 1) * 10 ^ l.length := by
    intro l
    induction l with
    | nil => intro a _ h0; simp; omega
    | cons c l ih =>
      intro a hc h0
      have h1 := hc c List.mem_cons_self
      have h2 := ih (a * 10 + ((c.toNat : Int) - 48)) (fun d hd => hc d (List.mem_cons_of_mem _ hd)) (by omega)
      rw [List.foldl_cons, List.length_cons]
      refine ⟨h2.1, Int.lt_of_lt_of_le h2.2 ?_⟩
      have hp : (0 : Int) ≤ 10 ^ l.length := Int.le_of_lt (Int.pow_pos (by decide))
      have : (a * 10 + ((c.toNat : Int) - 48) + 1) * 10 ^ l.length ≤ ((a + 1) * 10) * 10 ^ l.length := Int.mul_le_mul_of_nonneg_right (by omega) hp
      rw [Int.pow_succ, Int.mul_comm (10 ^ l.length) 10, ← Int.mul_assoc]
      exact this
  have := this l 0 h (Int.le_refl _)
  simpa [val] using this
/-- Behind k < 19 digits the value is below 10 to the 18th. -/
theorem val_take (l : List UInt8) (h : ∀ c ∈ l, 48 ≤ (c.toNat : Int) ∧ (c.toNat : Int) ≤ 57) (k : Nat) (hk : k ≤ 18) : 0 ≤ val (l.take k) ∧ val (l.take k) ≤ 999999999999999999 := by
  have h2 := val_nonneg (l.take k) (fun c hc => h c (List.mem_of_mem_take hc))
  have h3 : (l.take k).length ≤ 18 := by rw [List.length_take]; omega
  have h4 : (10 : Int) ^ (l.take k).length ≤ 10 ^ 18 := by
    have := Nat.pow_le_pow_right (n := 10) (by decide) h3
    exact_mod_cast this
  have h5 : (10 : Int) ^ 18 = 1000000000000000000 := by decide +kernel
  omega
theorem take_snoc (s : ByteArray) (k : Nat) (h : k < s.size) : s.data.toList.take (k + 1) = s.data.toList.take k ++ [s[k]] := by
  rw [List.take_succ_eq_append_getElem (by simpa using h)]; rfl
theorem mem_at (s : ByteArray) (k : Nat) (h : k < s.size) : s[k] ∈ s.data.toList := by
  have : s[k] = s.data.toList[k]'(by simpa using h) := rfl
  rw [this]; exact List.getElem_mem _
theorem ones_xor (n x : Nat) (h : x < 2 ^ n) : (2 ^ n - 1) ^^^ x = 2 ^ n - (x + 1) := by
  apply Nat.eq_of_testBit_eq
  intro i
  rw [Nat.testBit_xor, Nat.testBit_two_pow_sub_one, Nat.testBit_two_pow_sub_succ h]
  by_cases hi : i < n
  · simp [hi]
  · have : x.testBit i = false := Nat.testBit_lt_two_pow (Nat.lt_of_lt_of_le h (Nat.pow_le_pow_right (by decide) (by omega)))
    simp [hi, this]
theorem flip64 (a : Int) (h0 : 1 ≤ a) (h1 : a ≤ 9223372036854775808) : wrap64 (IntKind.u64.wrap (bits BinOp.xor IntKind.u64 IntKind.u64.max a + 1)) = -a := by
  have e : IntKind.u64.max = 18446744073709551615 := by decide +kernel
  rw [e, u64_xor _ _ (by omega) (by omega) (by omega) (by omega)]
  have hx : (18446744073709551615 : Int).toNat ^^^ a.toNat = 18446744073709551616 - (a.toNat + 1) := ones_xor 64 a.toNat (by omega)
  rw [hx]
  have hw : ∀ x : Int, IntKind.u64.wrap x = x % 18446744073709551616 := fun x => by simp [IntKind.wrap, IntKind.bits, IntKind.signed]
  rw [hw]
  unfold wrap64
  omega
end Go.Proofs.Qxb6604495aDoor
