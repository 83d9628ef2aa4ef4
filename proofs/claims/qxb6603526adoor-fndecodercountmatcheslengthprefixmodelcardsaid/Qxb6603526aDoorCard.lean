/-
  FnDecoderCountMatchesLengthPrefixModel: the row out of the walk, and the tied card.
-/
import Derived.Test.Qxb6603526aDoorLaw
import Derived.Test.Qxb6603526aDoorTie
import Derived.Test.Qxb6603526aDoorCards
import Derived.ProofKit
import Derived.LaidMore
import Derived.OpenShut
import Derived.Stop.Joined
import Derived.Stop.LaidErr
import Derived.WalkSmall
namespace Go.Proofs.Qxb6603526aDoor.Count
open Go.ChangeShapes Go.WideShapes Go.ChangeAt Go.RowKit
set_option linter.unusedVariables false

def errName : String := Rows.fnDecoderCountMatchesLengthPrefixModelRow.named.getD 0 ""
def laid1 : List (String × DataW Unit) := Rows.fnDecoderCountMatchesLengthPrefixModelRow.laid
theorem own : ownKnob Tryd.prog.godebug = none := by kernel_rfl
theorem laidOut : laidOutB Tryd.prog = true := by kernel_rfl
theorem gErr : Tryd.prog.globalNamed errName = some 0 := by kernel_rfl
theorem tErr : (Tryd.prog.globals[0]?).map (·.type) = some 29 := by kernel_rfl
set_option maxRecDepth 100000 in
theorem err_of_laid {W : World} (h : laidMetH Tryd.prog laid1 W) : ∃ u v, W.var? Tryd.prog errName = some #[.iface u v] := by
  rw [MakeChecks.laidMetH_plain _ _ _ (by kernel_rfl)] at h
  obtain ⟨ps, ⟨g0, t0, cs0, f0, p0, q0, hg0, ht0, hv0, hd0, _, _⟩, _⟩ := h
  obtain rfl := Option.some.inj (gErr.symm.trans hg0)
  obtain rfl := Option.some.inj (tErr.symm.trans ht0)
  obtain ⟨f1, u, v, hcs, _, _⟩ := iface_of_trod Tryd.underlying29 hd0
  have e : cs0 = #[.iface u v] := by cases cs0; simp_all
  subst e
  exact ⟨u, v, hv0⟩
set_option maxRecDepth 100000 in
theorem door_met (os : Os) (args : Array Value) : laidMetH Tryd.prog laid1 ((World.doorLaid Tryd.prog 28 os).forCall (fun _ _ => 0) ⟨#[], args, []⟩).memory :=
  laidMetH_of_parts3 (fuel := 8) (laidMet_of_run' 8 (by kernel_rfl) (by kernel_rfl)) (by kernel_rfl) (by kernel_rfl)

/-- A slice of bytes that reads as data is told by its list. -/
theorem bytes_of {H : Type} {enc : TypeId × Value → H} {W : World} {a0 : Option Addr} {len0 cap0 : Nat} {d0 : DataW H} {p0 : List MemPlace}
    (h0 : DataW.Trod enc Tryd.prog W 0 (fun _ => true) true 22 (.slice a0 len0 cap0) d0 p0) : ∃ l : List UInt8, l.length = len0 ∧ U8 W a0 l cap0 := by
  obtain ⟨fuel, hf⟩ := h0
  rcases open_ints Tryd.underlying22 Tryd.underlying5 (by kernel_rfl) hf with ⟨hcs, _⟩ | ⟨x, l, c, zs, hcs, _, hl, hm, hz, _, hcell, hwz⟩
  · simp [Value.cells] at hcs
    obtain ⟨rfl, rfl, rfl⟩ := hcs
    exact ⟨[], rfl, fun _ => ⟨rfl, rfl⟩, Nat.le_refl _, fun _ e => by cases e⟩
  · simp [Value.cells] at hcs
    obtain ⟨rfl, rfl, rfl⟩ := hcs
    have hz' : zs.length = cap0 := by simpa using hz
    have hlen : ((zs.take len0).map fun z => UInt8.ofNat z.toNat).length = len0 := by simp; omega
    refine ⟨(zs.take len0).map fun z => UInt8.ofNat z.toNat, hlen, (fun e => by cases e), by rw [hlen]; exact hl, fun ad ha j hj => ?_⟩
    rw [hlen] at hj
    cases ha
    rw [hcell j (by omega)]
    have hb := bounds_u8 (hwz (zs.getD j 0) (by
      have : zs.getD j 0 = zs[j]'(by omega) := by simp [List.getD, show j < zs.length by omega]
      rw [this]; exact List.getElem_mem _))
    have e : (at8 ((zs.take len0).map fun z => UInt8.ofNat z.toNat) j : Int) = zs.getD j 0 := by
      have hg : ((zs.take len0).map fun z => UInt8.ofNat z.toNat).getD j 0 = UInt8.ofNat (zs.getD j 0).toNat := by
        simp [List.getD, hj, show j < zs.length by omega]
      unfold at8
      rw [hg]
      have : (UInt8.ofNat (zs.getD j 0).toNat).toNat = (zs.getD j 0).toNat := by
        rw [UInt8.toNat_ofNat']
        exact Nat.mod_eq_of_lt (by omega)
      rw [this]; omega
    rw [e]

set_option maxRecDepth 100000 in
theorem lifted (os : Os) (started : os.Started) (H : Type) (enc : TypeId × Value → H) :
    ReturnsInHanded {} Tryd.checked os 4 .any (fun w args => (Rows.fnDecoderCountMatchesLengthPrefixModelSpec.pre enc Tryd.prog Tryd.f4 [] false w args ∧ laidMetH Tryd.prog laid1 w) ∧ sizedMet enc Tryd.prog Tryd.f4 (OpenSpec.ofChange Rows.fnDecoderCountMatchesLengthPrefixModelSpec) false w args)
      (Rows.fnDecoderCountMatchesLengthPrefixModelSpec.post enc Tryd.prog Tryd.f4 false true false false) := by
  refine returnsInHanded_of_change_and (C := Tryd.checked) (X := fun w _ => laidMetH Tryd.prog laid1 w) (fun _ _ _ hh h => h.of_heap hh) own started (by kernel_rfl) Tryd.func4
    (ChangeSpec.witness_shaped (enc := enc) (C := Tryd.checked) (os := os) (X := fun w _ => laidMetH Tryd.prog laid1 w) false (World.doorLaid Tryd.prog 28 os) #[.slice none 0 0] 8 rfl (World.shaped_of_RefB (by kernel_rfl) (by kernel_rfl)) (by kernel_rfl) (by kernel_rfl) (by kernel_rfl) (door_met os _)) ?_
  intro W base args ds gs before hval0 hW _ _ hL _
  have hval : ∀ (j : Nat) t v, Tryd.f4.params[j]? = some t → args[j]? = some v → Value.okWide Tryd.prog W .any base t v := hval0
  have hW' := hW
  obtain ⟨p, q, hA0, hV0, rfl, hfz, hnd⟩ := hW
  have hA : DataW.TrodAll enc Tryd.prog W 0 (fun _ => true) true Tryd.f4.params.toList args.toList ds p := hA0
  have hV : DataW.TrodVars enc Tryd.prog W (fun _ => true) [errName] gs q := hV0
  rw [Tryd.params4] at hA hval
  obtain ⟨v0, d0, rfl, rfl, h0⟩ := trodAll_one hA
  obtain ⟨a0, len0, cap0, rfl⟩ := okWide_slice Tryd.underlying22 (hval 0 22 v0 rfl rfl)
  obtain ⟨tp, pv, hv1⟩ := err_of_laid hL
  obtain ⟨rfl, rfl⟩ := hV.unique (vars_read1 enc gErr tErr Tryd.underlying29 hv1 trivial _)
  have hg1 : W.cell? ⟨0, 0, none⟩ = some (.iface tp pv) := by simpa using World.var?_cell gErr hv1 0
  have k0 := h0
  have lt0 : ∀ x ∈ p, x.block < W.heap.size := by obtain ⟨m, hm⟩ := k0; exact DataW.trod_lt m _ _ _ hm
  obtain ⟨l, rfl, hu⟩ := bytes_of h0
  clear hA0 hV0 hval0
  refine (law_any W a0 l cap0 hu tp pv hg1).mono fun e W' ⟨he, bel⟩ => ?_
  subst he
  have e1 : Rows.fnDecoderCountMatchesLengthPrefixModelSpec.fn H ([d0] ++ [tok enc (.iface tp pv)]) = { results := [.lit (.bool true)], args := [d0], vars := [tok enc (.iface tp pv)] } := rfl
  have hv2 : W'.var? Tryd.prog errName = some #[.iface tp pv] := var?_below bel gErr (by
    rcases Nat.lt_or_ge 0 W.heap.size with h | h
    · exact h
    · simp [World.cell?, Array.getElem?_eq_none h] at hg1) hv1
  refine ⟨_, rfl, _, _, _, [], p, [.cell 0 0], hW', ?_, ?_, ?_, bel.frame _, fun h => by cases h⟩
  · rw [e1]; exact trodAll_mk1 (shut_bool Tryd.underlying4 true)
  · rw [e1]; exact trodAll_mk1 (Below.trod laidOut (by kernel_rfl) (of_decide_eq_true (by kernel_rfl)) k0 bel lt0)
  · rw [e1]; exact vars_read1 enc gErr tErr Tryd.underlying29 hv2 trivial _

theorem row_holds : Rows.FnDecoderCountMatchesLengthPrefixModelSaid :=
  OpenClaim.holds_of_wide 4 Tryd.f4 rfl rfl rfl rfl rfl rfl rfl ⟨rfl, rfl, rfl, rfl, rfl⟩ rfl rfl rfl rfl rfl (by kernel_rfl) Tryd.func4 (by kernel_rfl)
    (of_decide_eq_true (by kernel_rfl)) (by unfold Func.isWrapper; first | (rw [if_pos (by decide +kernel)]; kernel_rfl) | (rw [if_neg (by decide +kernel)]; exact ⟨rfl, rfl⟩))
    (fun os started H enc _ => lifted os started H enc)

/-- THE TIED CARD. -/
theorem card_holds : Rows.FnDecoderCountMatchesLengthPrefixModelCardSaid :=
  Claim7.holds_tied_plain_at .later [] [.sentinel] true Rows.fnDecoderCountMatchesLengthPrefixModelCard.stood.harness false
    row_holds (fun _ h => by cases h) (by kernel_rfl) (fun _ h => by cases h) fnDecoderCountMatchesLengthPrefixModel_row_tie rfl ⟨rfl, rfl⟩ (by kernel_rfl) rfl
    (fun f fn hf hfn => by
      obtain rfl : f = 4 := Option.some.inj ((show Tryd.prog.funcNamed Rows.fnDecoderCountMatchesLengthPrefixModelRow.func = some 4 by kernel_rfl).symm.trans hf) |>.symm
      obtain rfl : fn = Tryd.f4 := (Option.some.inj (Tryd.func4.symm.trans hfn)).symm
      exact ⟨by kernel_rfl, fun j t ht => by
        rw [Tryd.params4] at ht
        have h3 : t = 22 := by
          rcases j with _ | j
          · simpa using ht.symm
          · simp at ht
        subst h3
        exact (show Tryd.prog.wantsStandIn 22 = false by kernel_rfl)⟩)
    (by kernel_rfl)
end Go.Proofs.Qxb6603526aDoor.Count
