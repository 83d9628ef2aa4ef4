/-
  jsonline.isHex (by way of ZZisHex) and the law's alphabet search, each walked to one plain test on the byte.
-/
import Derived.Test.Qxb6604593aRows
import Derived.WalkKit
import Derived.ProofKit
import Derived.OpenShut
import Derived.ShutString
import Derived.WalkSpells
namespace Go.Proofs.Qxb6604593a
open Go.RowKit
def hexB (c : Int) : Bool := decide (48 ≤ c ∧ c ≤ 57) || decide (97 ≤ c ∧ c ≤ 102) || decide (65 ≤ c ∧ c ≤ 70)
theorem hexB_iff (c : Int) : hexB c = true ↔ (48 ≤ c ∧ c ≤ 57) ∨ (97 ≤ c ∧ c ≤ 102) ∨ (65 ≤ c ∧ c ≤ 70) := by
  simp [hexB, or_assoc]
theorem hexB_of {c : Int} {b : Bool} (h : b = true ↔ (48 ≤ c ∧ c ≤ 57) ∨ (97 ≤ c ∧ c ≤ 102) ∨ (65 ≤ c ∧ c ≤ 70)) : b = hexB c := by
  rw [Bool.eq_iff_iff, hexB_iff]; exact h
theorem ret_bool {a b : Bool} (h : a = b) : Ending.returned (.bool a) = .returned (.bool b) := by rw [h]
set_option maxHeartbeats 400000 in
theorem hex_any (c : Int) (w : World) :
    Calls Try.prog 7 #[.int .u8 c] w fun e w' => e = .returned (.bool (hexB c)) ∧ w' = w := by
  go_enter Try.func7, Try.ntmps7
  go_wp2
  all_goals
    go_ret
    exact ⟨ret_bool (hexB_of (by simp; omega)), rfl⟩
def alpha : ByteArray := { data := #[48, 49, 50, 51, 52, 53, 54, 55, 56, 57, 97, 98, 99, 100, 101, 102, 65, 66, 67, 68, 69, 70] }
theorem alpha_in : ∀ k : Fin 22, hexB (alpha.data.toList[k.val]!.toNat : Int) = true := by decide
theorem alpha_all (c : Int) (h : ∀ k : Fin 22, (alpha.data.toList[k.val]!.toNat : Int) ≠ c) : hexB c = false := by
  rw [Bool.eq_false_iff, Ne, hexB_iff]
  have q0 : (48 : Int) ≠ c := h ⟨0, by decide⟩
  have q1 : (49 : Int) ≠ c := h ⟨1, by decide⟩
  have q2 : (50 : Int) ≠ c := h ⟨2, by decide⟩
  have q3 : (51 : Int) ≠ c := h ⟨3, by decide⟩
  have q4 : (52 : Int) ≠ c := h ⟨4, by decide⟩
  have q5 : (53 : Int) ≠ c := h ⟨5, by decide⟩
  have q6 : (54 : Int) ≠ c := h ⟨6, by decide⟩
  have q7 : (55 : Int) ≠ c := h ⟨7, by decide⟩
  have q8 : (56 : Int) ≠ c := h ⟨8, by decide⟩
  have q9 : (57 : Int) ≠ c := h ⟨9, by decide⟩
  have q10 : (97 : Int) ≠ c := h ⟨10, by decide⟩
  have q11 : (98 : Int) ≠ c := h ⟨11, by decide⟩
  have q12 : (99 : Int) ≠ c := h ⟨12, by decide⟩
  have q13 : (100 : Int) ≠ c := h ⟨13, by decide⟩
  have q14 : (101 : Int) ≠ c := h ⟨14, by decide⟩
  have q15 : (102 : Int) ≠ c := h ⟨15, by decide⟩
  have q16 : (65 : Int) ≠ c := h ⟨16, by decide⟩
  have q17 : (66 : Int) ≠ c := h ⟨17, by decide⟩
  have q18 : (67 : Int) ≠ c := h ⟨18, by decide⟩
  have q19 : (68 : Int) ≠ c := h ⟨19, by decide⟩
  have q20 : (69 : Int) ≠ c := h ⟨20, by decide⟩
  have q21 : (70 : Int) ≠ c := h ⟨21, by decide⟩
  omega
theorem alpha_at (k : Nat) (hk : k < 22) : (({ data := #[48, 49, 50, 51, 52, 53, 54, 55, 56, 57, 97, 98, 99, 100, 101, 102, 65, 66, 67, 68, 69, 70] } : ByteArray)[k]'hk) = alpha.data.toList[k]! := by
  show (alpha[k]'hk) = _
  rw [List.getElem!_eq_getElem?_getD, List.getElem?_eq_getElem hk]
  rfl
set_option maxHeartbeats 400000 in
theorem alpha_any (c : Int) (w : World) :
    Calls Try.prog 8 #[.int .u8 c] w fun e w' => e = .returned (.bool (hexB c)) ∧ w' = w := by
  go_enter Try.func8, Try.ntmps8
  go_wp2
  go_loop [3] (fun i => ∃ k : Nat, k ≤ 22 ∧ i = .int .i64 k ∧ Hid (∀ j : Fin 22, j.val < k → (alpha.data.toList[j.val]!.toNat : Int) ≠ c)) (fun i => 22 - (intOf i).toNat)
  case atStart => exact ⟨0, Nat.zero_le _, rfl, fun j hj => absurd hj (Nat.not_lt_zero _)⟩
  case round =>
    obtain ⟨k, hk, rfl, HJ⟩ := hrel
    by_cases hlt : k < 22
    · go_wp2
      · rename_i hh _
        go_ret
        refine ⟨ret_bool ?_, rfl⟩
        rw [alpha_at k hlt] at hh
        have := alpha_in ⟨k, hlt⟩
        rw [← (by simpa using hh : (alpha.data.toList[k]!.toNat : Int) = c)]
        exact this.symm
      · rename_i hh
        go_round
        case rel =>
          refine ⟨k + 1, by omega, by go_num, fun j hj => ?_⟩
          rw [alpha_at k hlt] at hh
          by_cases e : j.val < k
          · exact HJ.out j e
          · have ek : j.val = k := by omega
            rw [ek]
            simpa using hh
        case measure => simp [intOf]; omega
    · go_wp2
      go_ret
      refine ⟨ret_bool ?_, rfl⟩
      exact (alpha_all c fun j => HJ.out j (by omega)).symm
end Go.Proofs.Qxb6604593a
