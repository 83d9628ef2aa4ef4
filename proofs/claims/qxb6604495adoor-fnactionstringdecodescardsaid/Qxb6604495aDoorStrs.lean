/-
  The texts of Action.String and Mode.String outside the known values, walked over the shelf's strconv.Itoa.
-/
import Derived.Test.Qxb6604495aDoorShelf
import Derived.WalkKit
import Derived.Lib.ItoaLen
import Derived.Lib.AppendIntMem
import Derived.Lib.SmallJoins
namespace Go.Proofs.Qxb6604495aDoor
open Go.RowKit
def powName : String := Rows.fnActionStringDecodesRow.named.getD 0 ""
def actB (n : Int) : ByteArray := { data := #[65, 99, 116, 105, 111, 110, 40] } ++ { data := (Lib.itoa n).toArray } ++ { data := #[41] }
def modB (n : Int) : ByteArray := { data := #[77, 111, 100, 101, 40] } ++ { data := (Lib.itoa n).toArray } ++ { data := #[41] }
theorem powG : Tryd.prog.globalNamed powName = some 0 := by kernel_rfl
theorem tab_on {w w' : World} (h : Lib.TabIs Tryd.prog w powName .u64 Lib.pow10Tab) (hb : Below w.heap.size w w') : Lib.TabIs Tryd.prog w' powName .u64 Lib.pow10Tab :=
  Joins.tab_stays powG h hb (Nat.le_refl _)
set_option maxHeartbeats 400000 in
theorem action_other (n : Int) (h0 : -9223372036854775808 ≤ n) (h1 : n ≤ 9223372036854775807) (hn : n < 0 ∨ 4 < n) (w : World) (htab : Lib.TabIs Tryd.prog w powName .u64 Lib.pow10Tab) :
    Calls Tryd.prog 8 #[.int .i64 n] w fun e w' => e = .returned (.string (actB n)) ∧ Below w.heap.size w w' := by
  have hl := Lib.itoa_length_le n h0 h1
  rcases hn with hn | hn
  all_goals
    go_enter Tryd.func8, Tryd.ntmps8
    go_wp2_with (go_at_call 12; refine (Tryd.strconv_Itoa _ h0 h1 _ htab).mono ?_; rintro e w' ⟨rfl, k, os, rfl⟩)
    go_ret
    exact ⟨rfl, Lib.below_grow _ _ (Nat.le_refl _) _ _⟩
set_option maxHeartbeats 400000 in
theorem mode_other (n : Int) (h0 : -9223372036854775808 ≤ n) (h1 : n ≤ 9223372036854775807) (hn : n < 0 ∨ 4 < n) (w : World) (htab : Lib.TabIs Tryd.prog w powName .u64 Lib.pow10Tab) :
    Calls Tryd.prog 10 #[.int .i64 n] w fun e w' => e = .returned (.string (modB n)) ∧ Below w.heap.size w w' := by
  have hl := Lib.itoa_length_le n h0 h1
  rcases hn with hn | hn
  all_goals
    go_enter Tryd.func10, Tryd.ntmps10
    go_wp2_with (go_at_call 12; refine (Tryd.strconv_Itoa _ h0 h1 _ htab).mono ?_; rintro e w' ⟨rfl, k, os, rfl⟩)
    go_ret
    exact ⟨rfl, Lib.below_grow _ _ (Nat.le_refl _) _ _⟩
end Go.Proofs.Qxb6604495aDoor
