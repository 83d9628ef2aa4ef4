/-
  FnUnknownActionAndModeShareNumbering: the walk, the row, the tied card.
-/
import Derived.Test.Qxb6604495aDoorStrs
import Derived.Deep.QuietTactic
import Derived.BigQuiet
import Derived.WalkSpells
namespace Go.Proofs.Qxb6604495aDoor.Share
open Go.RowKit

theorem nDigits_pos (n : Int) : 1 ≤ (Lib.itoa n).length := by
  unfold Lib.itoa
  have hd : ∀ u, 1 ≤ (Lib.decDigits u).length := by
    intro u
    rw [Lib.decDigits]
    split <;> simp
  split
  · simp
  · exact hd _
theorem size_act (n : Int) : (actB n).size = 8 + (Lib.itoa n).length := by
  show ((actB n).data).size = _
  simp [actB]; omega
theorem size_mod (n : Int) : (modB n).size = 6 + (Lib.itoa n).length := by
  show ((modB n).data).size = _
  simp [modB]; omega
theorem act_head (n : Int) : (actB n).extract 0 6 = { data := #[65, 99, 116, 105, 111, 110] } := by
  apply ByteArray.ext
  apply Array.toList_inj.1
  simp [actB]
theorem mod_head (n : Int) : (modB n).extract 0 4 = { data := #[77, 111, 100, 101] } := by
  apply ByteArray.ext
  apply Array.toList_inj.1
  simp [modB]
theorem tails (n : Int) : (actB n).extract 6 (actB n).size = (modB n).extract 4 (modB n).size := by
  rw [size_act, size_mod]
  apply ByteArray.ext
  apply Array.toList_inj.1
  simp [actB, modB]
  omega

set_option maxHeartbeats 400000 in
theorem share_other (n : Int) (h0 : -9223372036854775808 ≤ n) (h1 : n ≤ 9223372036854775807) (hn : n < 0 ∨ 4 < n) (w : World) (htab : Lib.TabIs Tryd.prog w powName .u64 Lib.pow10Tab)
    (s1 : 8 < (actB n).size) (s2 : 4 ≤ (modB n).size) (l1 : (actB n).size ≤ 40) (l2 : (modB n).size ≤ 40)
    (e1 : (actB n).extract 0 6 = { data := #[65, 99, 116, 105, 111, 110] }) (e2 : (modB n).extract 0 4 = { data := #[77, 111, 100, 101] }) (e3 : (actB n).extract 6 (actB n).size = (modB n).extract 4 (modB n).size) :
    Calls Tryd.prog 7 #[.int .i64 n] w fun e w' => e = .returned (.bool true) ∧ Below w.heap.size w w' := by
  have s1' : decide (8 < ((actB n).size : Int)) = true := by simp; omega
  have hn' := hn
  rcases hn with hn | hn
  all_goals
    go_enter Tryd.func7, Tryd.ntmps7
    go_wp2_with (first | (go_at_call 8; refine (action_other n h0 h1 hn' _ htab).mono ?_; rintro e w1 ⟨rfl, hb1⟩) | (go_at_call 10; refine (mode_other n h0 h1 hn' _ (tab_on htab hb1)).mono ?_; rintro e w2 ⟨rfl, hb2⟩))
    go_quiet (fail)
    go_wp2
    go_ret
    exact ⟨rfl, hb1.trans ((hb2.mono hb1.size).trans ⟨rfl, rfl, rfl, Nat.le_refl _, fun _ _ => rfl⟩)⟩

theorem share_known (n : Int) (hn0 : 0 ≤ n) (hn4 : n ≤ 4) (w : World) :
    Calls Tryd.prog 7 #[.int .i64 n] w fun e w' => e = .returned (.bool true) ∧ Below w.heap.size w w' := by
  go_enter Tryd.func7, Tryd.ntmps7
  go_wp2
  go_ret
  exact ⟨rfl, Below.refl _ _⟩
theorem share_any (n : Int) (h0 : -9223372036854775808 ≤ n) (h1 : n ≤ 9223372036854775807) (w : World) (htab : Lib.TabIs Tryd.prog w powName .u64 Lib.pow10Tab) :
    Calls Tryd.prog 7 #[.int .i64 n] w fun e w' => e = .returned (.bool true) ∧ Below w.heap.size w w' := by
  by_cases hk : 0 ≤ n ∧ n ≤ 4
  · exact share_known n hk.1 hk.2 w
  · have hl := Lib.itoa_length_le n h0 h1
    have hp := nDigits_pos n
    have ha := size_act n
    have hm := size_mod n
    exact share_other n h0 h1 (by omega) w htab (by omega) (by omega) (by omega) (by omega) (act_head n) (mod_head n) (tails n)

end Go.Proofs.Qxb6604495aDoor.Share
