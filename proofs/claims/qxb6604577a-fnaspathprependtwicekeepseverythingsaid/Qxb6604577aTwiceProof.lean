/-
  FnASPathPrependTwiceKeepsEverything: the row out of the walk.
-/
import Derived.Test.Qxb6604577aTwice
import Derived.ProofKit
import Derived.OpenShut
import Derived.ShutString
import Derived.Deep.Matrix
namespace Go.Proofs.Qxb6604577a.fnASPathPrependTwiceKeepsEverything
open Go.ChangeShapes Go.WideShapes Go.ChangeAt Go.RowKit
set_option linter.unusedVariables false

theorem own : ownKnob Try.prog.godebug = none := by kernel_rfl
theorem laidOut : laidOutB Try.prog = true := by kernel_rfl

/-- What the two slices' readings give the walk. -/
theorem came_of {H : Type} {enc : TypeId × Value → H} {W : World} {a0 a1 : Option Addr} {len0 cap0 len1 cap1 : Nat} {d0 d1 : DataW H} {p0 p1 : List MemPlace}
    (h0 : DataW.Trod enc Try.prog W 0 (fun _ => true) true 25 (.slice a0 len0 cap0) d0 p0) (h1 : DataW.Trod enc Try.prog W 0 (fun _ => true) true 26 (.slice a1 len1 cap1) d1 p1) :
    ∃ tb tof b o T A X C, Came W a0 a1 tb tof len0 cap0 b o len1 T A X C := by
  obtain ⟨tb, tof, T, t1, t2, t3⟩ : ∃ (tb tof : Nat) (T : Nat → Int), (a0 = none → len0 = 0 ∧ cap0 = 0) ∧ (0 < len0 → a0 = some ⟨tb, tof, none⟩) ∧ (∀ i, i < len0 → W.cell? ⟨tb, tof + i, none⟩ = some (.int .u8 (T i))) := by
    obtain ⟨fuel, hf⟩ := h0
    rcases open_ints Try.underlying25 Try.underlying5 (by kernel_rfl) hf with ⟨hcs, _⟩ | ⟨x, l, c, zs, hcs, _, hl, hm, hz, _, hcell, hwz⟩
    · simp [Value.cells] at hcs
      obtain ⟨rfl, rfl, rfl⟩ := hcs
      exact ⟨0, 0, fun _ => 0, fun _ => ⟨rfl, rfl⟩, fun h => absurd h (Nat.not_lt_zero _), fun _ h => absurd h (Nat.not_lt_zero _)⟩
    · simp [Value.cells] at hcs
      obtain ⟨rfl, rfl, rfl⟩ := hcs
      have hz' : zs.length = cap0 := by simpa using hz
      by_cases hl0 : 0 < len0
      · obtain ⟨xb, xo, xs⟩ := x
        have c0 := hcell 0 (by omega)
        cases xs with
        | some y => simp [Addr.add, World.cell?] at c0; split at c0 <;> simp at c0
        | none =>
          refine ⟨xb, xo, fun i => zs.getD i 0, (fun e => by cases e), fun _ => rfl, fun i hi => ?_⟩
          have := hcell i (by omega)
          rwa [add_at] at this
      · exact ⟨0, 0, fun _ => 0, (fun e => by cases e), fun h => absurd h hl0, fun i hi => absurd hi (by omega)⟩
  obtain ⟨b, o, A, X, C, r1, r2⟩ : ∃ (b o : Nat) (A : Nat → Option Addr) (X : Nat → List Int) (C : Nat → Nat), (0 < len1 → a1 = some ⟨b, o, none⟩) ∧ Rows32 W b o len1 A X C := by
    obtain ⟨fuel, hf⟩ := h1
    rcases Deep.open_int_rows Try.underlying26 Try.underlying33 Try.underlying22 (by kernel_rfl) (by kernel_rfl) hf with ⟨hcs, _⟩ | ⟨x, l, c, A, L, C, Z, hcs, _, hl, _, _, hrow⟩
    · simp [Value.cells] at hcs
      obtain ⟨rfl, rfl, rfl⟩ := hcs
      exact ⟨0, 0, fun _ => none, fun _ => [], fun _ => 0, fun h => absurd h (Nat.not_lt_zero _), fun _ h => absurd h (Nat.not_lt_zero _)⟩
    · simp [Value.cells] at hcs
      obtain ⟨rfl, rfl, rfl⟩ := hcs
      by_cases hl0 : 0 < len1
      · obtain ⟨xb, xo, xs⟩ := x
        have c0 := (hrow 0 (by omega)).1
        cases xs with
        | some y => simp [Addr.add, World.cell?] at c0; split at c0 <;> simp at c0
        | none =>
          refine ⟨xb, xo, A, fun r => (Z r).take (L r), C, fun _ => rfl, fun r hr => ?_⟩
          obtain ⟨q1, q2, q3, q4, q5, q6, q7⟩ := hrow r (by omega)
          have hlen : ((Z r).take (L r)).length = L r := by rw [List.length_take]; omega
          refine ⟨?_, ?_, ?_⟩
          · rw [hlen]; rwa [add_at] at q1
          · intro hn
            have := q6 hn
            refine ⟨List.length_eq_zero_iff.1 (by rw [hlen]; omega), this⟩
          · intro ad ha j u hu
            have hj : j < L r := by
              rcases Nat.lt_or_ge j (L r) with h | h
              · exact h
              · rw [List.getElem?_eq_none (by rw [hlen]; exact h)] at hu; cases hu
            have := (q7 ad ha).2 j (by omega)
            rw [List.getElem?_take, if_pos hj] at hu
            rw [this, List.getD, hu]
            rfl
      · exact ⟨0, 0, fun _ => none, fun _ => [], fun _ => 0, fun h => absurd h hl0, fun i hi => absurd hi (by omega)⟩
  exact ⟨tb, tof, b, o, T, A, X, C, t1, t2, t3, r1, r2⟩

set_option maxRecDepth 100000 in
theorem lifted (os : Os) (started : os.Started) (H : Type) (enc : TypeId × Value → H) :
    ReturnsInHanded {} Try.checked os 5 .any (Rows.fnASPathPrependTwiceKeepsEverythingSpec.pre6 enc Try.prog Try.f5 Rows.fnASPathPrependTwiceKeepsEverythingRow.domain false) (Rows.fnASPathPrependTwiceKeepsEverythingSpec.post enc Try.prog Try.f5 false true false false) := by
  refine returnsInHanded_of_change (C := Try.checked) own started (by kernel_rfl) Try.func5
    (ChangeSpec.witness6 (enc := enc) (C := Try.checked) false ⟨#[], #[.slice none 0 0, .slice none 0 0, .int .u32 0, .int .u32 0], []⟩ 8 (by kernel_rfl) (by kernel_rfl) (by kernel_rfl) (by kernel_rfl)) ?_
  intro W base args ds gs before hval0 hW hcnd _
  have hval : ∀ (j : Nat) t v, Try.f5.params[j]? = some t → args[j]? = some v → Value.okWide Try.prog W .any base t v := hval0
  have hW' := hW
  obtain ⟨p, q, hA0, hV, rfl, hfz, hnd⟩ := hW
  have hA : DataW.TrodAll enc Try.prog W 0 (fun _ => true) true Try.f5.params.toList args.toList ds p := hA0
  rw [Try.params5] at hA hval
  obtain ⟨v0, vs0, d0, ds0, p0, q0, hargs, rfl, rfl, h0, r0⟩ := trodAll_cons hA
  obtain ⟨v1, vs1, d1, ds1, p1, q1, rfl, rfl, rfl, h1, r1⟩ := trodAll_cons r0
  obtain ⟨v2, vs2, d2, ds2, p2, q2, rfl, rfl, rfl, h2, r2⟩ := trodAll_cons r1
  obtain ⟨v3, vs3, d3, ds3, p3, q3, rfl, rfl, rfl, h3, r3⟩ := trodAll_cons r2
  obtain ⟨rfl, rfl, rfl⟩ := trodAll_nil r3
  obtain rfl : args = #[v0, v1, v2, v3] := by cases args; simp_all
  obtain ⟨rfl, rfl⟩ := trodVars_none hV
  obtain ⟨a0, len0, cap0, rfl⟩ := okWide_slice Try.underlying25 (hval 0 25 v0 rfl rfl)
  obtain ⟨a1, len1, cap1, rfl⟩ := okWide_slice Try.underlying26 (hval 1 26 v1 rfl rfl)
  obtain ⟨a2, rfl, rfl, rfl, w2⟩ := open_int Try.underlying22 (hval 2 22 v2 rfl rfl) h2
  obtain ⟨a3, rfl, rfl, rfl, w3⟩ := open_int Try.underlying22 (hval 3 22 v3 rfl rfl) h3
  have k0 := h0
  have lt0 : ∀ x ∈ p0, x.block < W.heap.size := by obtain ⟨m, hm⟩ := k0; exact DataW.trod_lt m _ _ _ hm
  have k1 := h1
  have lt1 : ∀ x ∈ p1, x.block < W.heap.size := by obtain ⟨m, hm⟩ := k1; exact DataW.trod_lt m _ _ _ hm
  obtain ⟨tb, tof, b, o, T, A, X, C, hin⟩ := came_of h0 h1
  clear hA0 hval0
  refine (twice_any W a0 a1 tb tof len0 cap0 b o len1 cap1 a2 a3 T A X C hin).mono fun e W' ⟨he, bel⟩ => ?_
  subst he
  exact ⟨_, rfl, _, _, _, [], _, [], hW', trodAll_mk1 (shut_bool Try.underlying4 _), (trodAll_cons_mk (Below.trod laidOut (by kernel_rfl) (of_decide_eq_true (by kernel_rfl)) k0 bel lt0) (trodAll_cons_mk (Below.trod laidOut (by kernel_rfl) (of_decide_eq_true (by kernel_rfl)) k1 bel lt1) (trodAll_cons_mk (shut_int Try.underlying22 w2) (trodAll_cons_mk (shut_int Try.underlying22 w3) trodAll_mk0)))), rfl, bel.frame _, fun h => by cases h⟩

theorem over : Rows.fnASPathPrependTwiceKeepsEverythingRow.holds Try.pinned (OpenSpec.ofChange Rows.fnASPathPrependTwiceKeepsEverythingSpec) :=
  OpenClaim.holds_of_wide 5 Try.f5 rfl rfl rfl rfl rfl rfl rfl ⟨rfl, rfl, rfl, rfl, rfl⟩ rfl rfl rfl rfl rfl (by kernel_rfl) Try.func5 (by kernel_rfl)
    (of_decide_eq_true (by kernel_rfl)) (by unfold Func.isWrapper; first | (rw [if_pos (by decide +kernel)]; kernel_rfl) | (rw [if_neg (by decide +kernel)]; exact ⟨rfl, rfl⟩))
    (fun os started H enc _ => lifted os started H enc)

/-- THE STATEMENT. -/
theorem proved : Rows.FnASPathPrependTwiceKeepsEverythingSaid := over
end Go.Proofs.Qxb6604577a.fnASPathPrependTwiceKeepsEverything
