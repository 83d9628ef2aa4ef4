/-
  A PROOF OF 'Rows.FnIsHexCaseBlindAndCountedSaid' (the frame: the guide's skeleton tool).
-/
import Derived.Test.Qxb6604593aRows
import Derived.Test.Qxb6604593aHex
import Derived.WalkKit
import Derived.ProofKit
import Derived.OpenShut
import Derived.ShutString
namespace Go.Proofs.Qxb6604593a.fnIsHexCaseBlindAndCounted
open Go.ChangeShapes Go.WideShapes Go.ChangeAt Go.RowKit
open Go.ChangeMaps (open_string shut_string)
set_option linter.unusedVariables false      -- a walk need not use every 'w<i>' (that an integer argument fits its kind)

theorem own : ownKnob Try.prog.godebug = none := by kernel_rfl

def top : Nat := 256
def cnt (k : Nat) : Int := ((List.range k).filter fun i : Nat => hexB i).length
theorem cnt_le (k : Nat) : 0 ≤ cnt k ∧ cnt k ≤ k := by
  unfold cnt
  exact ⟨by omega, by have := List.length_filter_le (fun i : Nat => hexB i) (List.range k); simp at this; omega⟩
theorem cnt_succ (k : Nat) : cnt (k + 1) = cnt k + if hexB k = true then 1 else 0 := by
  unfold cnt
  rw [List.range_succ, List.filter_append]
  by_cases h : hexB (k : Int) = true <;> simp [h]
theorem cnt_all : cnt 256 = 22 := by decide +kernel

theorem swap_all : ∀ j : Fin 256, ((65 ≤ (j.val : Int) ∧ (j.val : Int) ≤ 90) ∨ (97 ≤ (j.val : Int) ∧ (j.val : Int) ≤ 122)) → (hexB (j.val : Int) == hexB (bits BinOp.xor IntKind.u8 (j.val : Int) 32)) = true := by decide +kernel
theorem swap_case {c : Int} (hb : 0 ≤ c ∧ c ≤ 255) (h : (65 ≤ c ∧ c ≤ 90) ∨ (97 ≤ c ∧ c ≤ 122)) : (hexB c == hexB (bits BinOp.xor IntKind.u8 c 32)) = true := by
  obtain ⟨n, rfl⟩ := Int.eq_ofNat_of_zero_le hb.1
  exact swap_all ⟨n, by omega⟩ h

/-! ### STEP 1: THE WALK: the Go text returns true. 'Grown w w'': the world has at most new blocks (Derived/RowKit3.lean). Part the cases AHEAD of 'go_enter' where a test parts the walk; take each callee by a contract of your own. -/
set_option maxRecDepth 20000 in
theorem walk (a0 : Int) (w0 : (Lit.int .u8 a0).wf = true) (w : World) :
    Calls Try.prog 4 #[.int .u8 a0] w fun e w' => e = .returned (.bool true) ∧ Grown w w' := by
  go_enter Try.func4, Try.ntmps4
  go_wp2
  go_loop [3, 4] (fun n i => ∃ k : Nat, (k : Int) ≤ 256 ∧ i = .int .i64 k ∧ n = .int .i64 (cnt k)) (fun _ i => top - (intOf i).toNat)
  case atStart => exact ⟨0, by decide, rfl, rfl⟩
  case round =>
    obtain ⟨k, hk, rfl, rfl⟩ := hrel
    have hc := cnt_le k
    by_cases hlt : (k : Int) < 256
    · have hs := cnt_succ k
      have HS : Hid (cnt (k + 1) = cnt k + if hexB k = true then 1 else 0) := hs
      clear hs
      go_wp2_with (go_at_call 7; refine (hex_any _ _).mono ?_; rintro e w' ⟨rfl, rfl⟩)
      · rename_i hh
        go_round
        case rel => exact ⟨k + 1, by omega, by go_num, by rw [HS.out, if_pos hh]⟩
        case measure => simp [intOf, top]; omega
      · rename_i hh
        go_round
        case rel => exact ⟨k + 1, by omega, by go_num, by rw [HS.out, hh]; simp⟩
        case measure => simp [intOf, top]; omega
    · have hk2 : k = 256 := by omega
      have hc22 : cnt k = 22 := by rw [hk2]; exact cnt_all
      clear hk2
      go_wp2_with (go_at_call 7; refine (hex_any _ _).mono ?_; rintro e w' ⟨rfl, rfl⟩)
      all_goals go_ret
      all_goals first | exact ⟨rfl, Grown.refl _⟩ | exact ⟨ret_bool (swap_case (bounds_u8 w0) (by omega)), Grown.refl _⟩

/-! ### THE ROW's STEP: WRITTEN OUT: LEAVE IT -/
set_option maxRecDepth 100000 in
theorem lifted (os : Os) (started : os.Started) (H : Type) (enc : TypeId × Value → H) :
    ReturnsInHanded {} Try.checked os 4 .any (Rows.fnIsHexCaseBlindAndCountedSpec.pre6 enc Try.prog Try.f4 Rows.fnIsHexCaseBlindAndCountedRow.domain false) (Rows.fnIsHexCaseBlindAndCountedSpec.post enc Try.prog Try.f4 false true false false) := by
  refine returnsInHanded_of_change (C := Try.checked) own started (by kernel_rfl) Try.func4
    (ChangeSpec.witness6 (enc := enc) (C := Try.checked) false ⟨#[], #[.int .u8 0], []⟩ 8 (by kernel_rfl) (by kernel_rfl) (by kernel_rfl) (by kernel_rfl)) ?_
  intro W base args ds gs before hval0 hW hcnd _
  have hval : ∀ (j : Nat) t v, Try.f4.params[j]? = some t → args[j]? = some v → Value.okWide Try.prog W .any base t v := hval0
  have hW' := hW
  obtain ⟨p, q, hA0, hV, rfl, hfz, hnd⟩ := hW
  have hA : DataW.TrodAll enc Try.prog W 0 (fun _ => true) true Try.f4.params.toList args.toList ds p := hA0
  rw [Try.params4] at hA hval
  obtain ⟨v0, vs0, d0, ds0, p0, q0, hargs, rfl, rfl, h0, r0⟩ := trodAll_cons hA
  obtain ⟨rfl, rfl, rfl⟩ := trodAll_nil r0
  obtain rfl : args = #[v0] := by cases args; simp_all
  obtain ⟨rfl, rfl⟩ := trodVars_none hV
  obtain ⟨a0, rfl, rfl, rfl, w0⟩ := open_int Try.underlying5 (hval 0 5 v0 rfl rfl) h0
  clear hA0 hval0
  simp only [List.append_nil] at hW'
  refine (walk a0 w0 W).mono fun e W' ⟨he, hg⟩ => ?_
  subst he
  exact ⟨_, rfl, post_of_same (pa := []) (pv := []) hW' (fun _ _ _ => (trodAll_cons_mk (shut_bool Try.underlying4 _) trodAll_mk0)) (fun sp _ => (trodAll_cons_mk (shut_int Try.underlying5 w0) trodAll_mk0)) (fun _ _ => rfl) rfl
    (hg.frame _) hg.2.1 (ok_one (by kernel_rfl) rfl (okWide_bool_mk Try.underlying4 _))⟩

theorem over : Rows.fnIsHexCaseBlindAndCountedRow.holds Try.pinned (OpenSpec.ofChange Rows.fnIsHexCaseBlindAndCountedSpec) :=
  OpenClaim.holds_of_wide 4 Try.f4 rfl rfl rfl rfl rfl rfl rfl ⟨rfl, rfl, rfl, rfl, rfl⟩ rfl rfl rfl rfl rfl (by kernel_rfl) Try.func4 (by kernel_rfl)
    (of_decide_eq_true (by kernel_rfl)) (by unfold Func.isWrapper; first | (rw [if_pos (by decide +kernel)]; kernel_rfl) | (rw [if_neg (by decide +kernel)]; exact ⟨rfl, rfl⟩))
    (fun os started H enc _ => lifted os started H enc)

/-- ████ THE STATEMENT ████ -/
theorem proved : Rows.FnIsHexCaseBlindAndCountedSaid :=
  over
end Go.Proofs.Qxb6604593a.fnIsHexCaseBlindAndCounted
