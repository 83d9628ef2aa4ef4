/-
  zzFlatArgs and zzFlat: all the numbers of the rows, in order, in a slice of the call's own.
-/
import Derived.Test.Qxb6604577aBase
namespace Go.Proofs.Qxb6604577a
open Go.RowKit
set_option maxRecDepth 20000 in
set_option maxHeartbeats 400000 in
theorem flatArgs_any (w : World) (RA : Option Addr) (b o n c : Nat) (A : Nat → Option Addr) (X : Nat → List Int) (C : Nat → Nat) (hRA : 0 < n → RA = some ⟨b, o, none⟩) (hR : Rows32 w b o n A X C) (hn : n ≤ 1048576) (hf : (flat X n).length ≤ 1048576) :
    Calls Try.prog 11 #[.slice RA n c] w fun e w' => ∃ v, e = .returned v ∧ w'.ownsRow w.heap.size 22 1 v (flat X n).length (u32s (flat X n)) ∧ Below w.heap.size w w' := by
  obtain ⟨i0, hi, hz0, hz1, hz2⟩ := info_parts info22
  have HR : Hid (Rows32 w b o n A X C) := hR
  clear hR
  go_enter Try.func11, Try.ntmps11
  go_wp2_with fail
  go_loopw [3, 4] (fun v i wr => ∃ k : Nat, k ≤ n ∧ i = .int .i64 k ∧ wr.ownsRow w.heap.size 22 1 v (flat X k).length (u32s (flat X k)) ∧ Below w.heap.size w wr) (fun _ i _ => n - (intOf i).toNat)
  case atStart => exact ⟨0, Nat.zero_le _, rfl, World.ownsRow_nil _ _ _ _, Below.refl _ _⟩
  case round =>
    obtain ⟨k, hk, rfl, hown, hnx⟩ := hrel
    by_cases hlt : k < n
    · have e := hRA (by omega)
      subst e
      obtain ⟨hc0, hu0⟩ := HR.out k hlt
      have hc := cell_on hnx hc0
      have hu : Hid _ := hu0.on hnx
      clear hc0 hu0
      have hfk := flat_mono X (show k + 1 ≤ n by omega)
      have hfs := congrArg List.length (flat_succ X k)
      rw [List.length_append] at hfs
      have HB : (flat X k).length + (X k).length ≤ 1048576 := by omega
      clear hfs hfk
      go_wp2_with (at_builtin; refine wpList_append_any rfl (.tmp 11) (.tmp 15) 33 rfl w.heap.size 22 i0 (.int .u32 0) 1 4 Try.underlying33 hi hz0 hz1 hz2 rfl (by decide) _ _ _ rfl hown (A k) (X k).length (C k) (u32s (X k)) rfl ?c0 ?c1 ?c2 ?c3 ?c4 ?c5 ?c6 ?_)
      case c0 => simp [u32s_length]
      case c1 => intro h; have := hu.out.1 h; exact ⟨by simp [this.1], this.2⟩
      case c2 => exact src_cells hu.out
      case c3 => exact u32s_one _
      case c4 => unfold maxLen; omega
      case c5 => omega
      case c6 => exact hnx.size
      · intro v' w1 hown' hg
        have hb1 := below_grown hnx hown (Nat.le_refl _) hg
        have hown2 : w1.ownsRow w.heap.size 22 1 v' (flat X (k + 1)).length (u32s (flat X (k + 1))) := by
          rw [flat_succ, List.length_append, u32s_append]; exact hown'
        clear hown hown' hg hc hu hnx
        go_wp2
        go_roundw
        case rel => exact ⟨k + 1, by omega, by go_num, hown2, hb1⟩
        case measure => simp [intOf]; omega
    · have hkn : k = n := by omega
      subst hkn
      go_wp2
      go_ret
      exact ⟨_, rfl, hown, hnx⟩
set_option maxRecDepth 20000 in
set_option maxHeartbeats 400000 in
theorem flat_any (w : World) (RA : Option Addr) (b o n c : Nat) (T : Nat → Int) (A : Nat → Option Addr) (X : Nat → List Int) (C : Nat → Nat) (hRA : 0 < n → RA = some ⟨b, o, none⟩) (hR : PathAt w b o n T A X C) (hn : n ≤ 1048576) (hf : (flat X n).length ≤ 1048576) :
    Calls Try.prog 13 #[.slice RA n c] w fun e w' => ∃ v, e = .returned v ∧ w'.ownsRow w.heap.size 22 1 v (flat X n).length (u32s (flat X n)) ∧ Below w.heap.size w w' := by
  obtain ⟨i0, hi, hz0, hz1, hz2⟩ := info_parts info22
  have HR : Hid (PathAt w b o n T A X C) := hR
  clear hR
  go_enter Try.func13, Try.ntmps13
  go_wp2_with fail
  go_loopw [3, 4] (fun v i wr => ∃ k : Nat, k ≤ n ∧ i = .int .i64 k ∧ wr.ownsRow w.heap.size 22 1 v (flat X k).length (u32s (flat X k)) ∧ Below w.heap.size w wr) (fun _ i _ => n - (intOf i).toNat)
  case atStart => exact ⟨0, Nat.zero_le _, rfl, World.ownsRow_nil _ _ _ _, Below.refl _ _⟩
  case round =>
    obtain ⟨k, hk, rfl, hown, hnx⟩ := hrel
    by_cases hlt : k < n
    · have e := hRA (by omega)
      subst e
      obtain ⟨_, hc0, hu0⟩ := HR.out k hlt
      have hc := cell_on hnx hc0
      have hu : Hid _ := hu0.on hnx
      clear hc0 hu0
      have hfk := flat_mono X (show k + 1 ≤ n by omega)
      have hfs := congrArg List.length (flat_succ X k)
      rw [List.length_append] at hfs
      have HB : (flat X k).length + (X k).length ≤ 1048576 := by omega
      clear hfs hfk
      go_wp2_with (at_builtin; refine wpList_append_any rfl (.tmp 11) (.tmp 16) 33 rfl w.heap.size 22 i0 (.int .u32 0) 1 4 Try.underlying33 hi hz0 hz1 hz2 rfl (by decide) _ _ _ rfl hown (A k) (X k).length (C k) (u32s (X k)) rfl ?c0 ?c1 ?c2 ?c3 ?c4 ?c5 ?c6 ?_)
      case c0 => simp [u32s_length]
      case c1 => intro h; have := hu.out.1 h; exact ⟨by simp [this.1], this.2⟩
      case c2 => exact src_cells hu.out
      case c3 => exact u32s_one _
      case c4 => unfold maxLen; omega
      case c5 => omega
      case c6 => exact hnx.size
      · intro v' w1 hown' hg
        have hb1 := below_grown hnx hown (Nat.le_refl _) hg
        have hown2 : w1.ownsRow w.heap.size 22 1 v' (flat X (k + 1)).length (u32s (flat X (k + 1))) := by
          rw [flat_succ, List.length_append, u32s_append]; exact hown'
        clear hown hown' hg hc hu hnx
        go_wp2
        go_roundw
        case rel => exact ⟨k + 1, by omega, by go_num, hown2, hb1⟩
        case measure => simp [intOf]; omega
    · have hkn : k = n := by omega
      subst hkn
      go_wp2
      go_ret
      exact ⟨_, rfl, hown, hnx⟩
end Go.Proofs.Qxb6604577a
