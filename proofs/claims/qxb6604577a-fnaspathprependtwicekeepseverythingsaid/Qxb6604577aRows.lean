/-
  No cell of these rows narrows 'for every input' (looked for: loops, veiled, ifaces, maps, wideKeys, modest, calm, conditions, laid).
  DERIVED. THE GIVEN ROWS OF THIS SEAT. 3 by the template 'for every input the law returns true; each argument reads behind the call as it read before'; 0 by the template 'total and deterministic' (their statements: Qxb6604577aTotals.lean).
  GIVEN WITH THE SEED: the statements are not yours to turn. If you find one false, say at which input.
  Laid BY PROGRAM, IN A SANDBOX (cutbox-rows.mjs): the forced cells as the released guide's own fill.sh prints them over the translation bbc10f5d63917f5d… (all of the seat's roots in one cut). By AI agents, Wed Nov 11 2026. No macro, syntax, notation, axiom, sorry.
-/
import Derived.Test.Qxb6604577aChecked
import GoSem.Claim
import GoSem.ClaimJoined
import GoSem.ClaimMapViews
import Derived.JoinedTies
import Derived.KernelRfl
namespace Go.Proofs.Qxb6604577a
/- THE CELL 'sum', in the pinned program and in every row, IS THE sha256 OF THE DUMP (.gsa) THAT Qxb6604577aProg.lean LOADS. Nothing in Lean hashes anything: it is a label: what it is worth is what the hold of that sum in a sandbox is worth. -/
noncomputable def Try.pinned : Pinned := { name := "qxb6604577a", sum := "bbc10f5d63917f5d1aa037cf3841b6c3ddc09e46c0779ee1ce3c870f3a8f6054", checked := Try.checked }
namespace Rows
def none {H : Type} : Left H := { results := [], args := [] }

/-- 'zzlaws_internal_bgp_b1.FnUnmappableIffTwoOctetsLoseIt': WHATEVER THE INPUT: true; the input reads as it did. -/
def fnUnmappableIffTwoOctetsLoseItSpec : ChangeSpec := { name := "fnUnmappableIffTwoOctetsLoseIt", fn := fun _ => fun
  | [d] => { results := [.lit (.bool true)], args := [d] }
  | _ => none }
def fnUnmappableIffTwoOctetsLoseItRow : OpenClaim := { program := "qxb6604577a", sum := "bbc10f5d63917f5d1aa037cf3841b6c3ddc09e46c0779ee1ce3c870f3a8f6054", func := "example.com/peerage/peerage/zzlaws_internal_bgp_b1.FnUnmappableIffTwoOctetsLoseIt", spec := "fnUnmappableIffTwoOctetsLoseIt", apart := false }
def FnUnmappableIffTwoOctetsLoseItSaid : Prop := fnUnmappableIffTwoOctetsLoseItRow.holds Try.pinned (OpenSpec.ofChange fnUnmappableIffTwoOctetsLoseItSpec)

/-- ITS FALSE NEIGHBOUR: 'it returns false'. Refute it at one input. -/
def fnUnmappableIffTwoOctetsLoseItWrong : ChangeSpec := { name := "fnUnmappableIffTwoOctetsLoseIt", fn := fun _ => fun
  | [d] => { results := [.lit (.bool false)], args := [d] }
  | _ => none }
def FnUnmappableIffTwoOctetsLoseItWrongFalsely : Prop := fnUnmappableIffTwoOctetsLoseItRow.holds Try.pinned (OpenSpec.ofChange fnUnmappableIffTwoOctetsLoseItWrong)

/-- 'zzlaws_internal_bgp_b1.FnASPathPrependExact': WHATEVER THE INPUT: true; the input reads as it did. -/
def fnASPathPrependExactSpec : ChangeSpec := { name := "fnASPathPrependExact", fn := fun _ => fun
  | [d1, d2, d3] => { results := [.lit (.bool true)], args := [d1, d2, d3] }
  | _ => none }
def fnASPathPrependExactRow : OpenClaim := { program := "qxb6604577a", sum := "bbc10f5d63917f5d1aa037cf3841b6c3ddc09e46c0779ee1ce3c870f3a8f6054", func := "example.com/peerage/peerage/zzlaws_internal_bgp_b1.FnASPathPrependExact", spec := "fnASPathPrependExact", apart := false }
def FnASPathPrependExactSaid : Prop := fnASPathPrependExactRow.holds Try.pinned (OpenSpec.ofChange fnASPathPrependExactSpec)

/-- ITS FALSE NEIGHBOUR: 'it returns false'. Refute it at one input. -/
def fnASPathPrependExactWrong : ChangeSpec := { name := "fnASPathPrependExact", fn := fun _ => fun
  | [d1, d2, d3] => { results := [.lit (.bool false)], args := [d1, d2, d3] }
  | _ => none }
def FnASPathPrependExactWrongFalsely : Prop := fnASPathPrependExactRow.holds Try.pinned (OpenSpec.ofChange fnASPathPrependExactWrong)

/-- 'zzlaws_internal_bgp_b1.FnASPathPrependTwiceKeepsEverything': WHATEVER THE INPUT: true; the input reads as it did. -/
def fnASPathPrependTwiceKeepsEverythingSpec : ChangeSpec := { name := "fnASPathPrependTwiceKeepsEverything", fn := fun _ => fun
  | [d1, d2, d3, d4] => { results := [.lit (.bool true)], args := [d1, d2, d3, d4] }
  | _ => none }
def fnASPathPrependTwiceKeepsEverythingRow : OpenClaim := { program := "qxb6604577a", sum := "bbc10f5d63917f5d1aa037cf3841b6c3ddc09e46c0779ee1ce3c870f3a8f6054", func := "example.com/peerage/peerage/zzlaws_internal_bgp_b1.FnASPathPrependTwiceKeepsEverything", spec := "fnASPathPrependTwiceKeepsEverything", apart := false }
def FnASPathPrependTwiceKeepsEverythingSaid : Prop := fnASPathPrependTwiceKeepsEverythingRow.holds Try.pinned (OpenSpec.ofChange fnASPathPrependTwiceKeepsEverythingSpec)

/-- ITS FALSE NEIGHBOUR: 'it returns false'. Refute it at one input. -/
def fnASPathPrependTwiceKeepsEverythingWrong : ChangeSpec := { name := "fnASPathPrependTwiceKeepsEverything", fn := fun _ => fun
  | [d1, d2, d3, d4] => { results := [.lit (.bool false)], args := [d1, d2, d3, d4] }
  | _ => none }
def FnASPathPrependTwiceKeepsEverythingWrongFalsely : Prop := fnASPathPrependTwiceKeepsEverythingRow.holds Try.pinned (OpenSpec.ofChange fnASPathPrependTwiceKeepsEverythingWrong)

end Rows
end Go.Proofs.Qxb6604577a
