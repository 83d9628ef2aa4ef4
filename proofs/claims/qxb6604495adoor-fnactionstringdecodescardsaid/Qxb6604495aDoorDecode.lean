/-
  FnActionStringDecodes: decodeNumbered at an Action's text, decodeAction, the law's walk.
-/
import Derived.Test.Qxb6604495aDoorStrs
import Derived.Test.Qxb6604495aDoorNums
import Derived.WalkSpells
namespace Go.Proofs.Qxb6604495aDoor.Decode
open Go.RowKit
theorem ret_pair {k : IntKind} {a b : Int} {c : Bool} (h : a = b) : Ending.returned (.tuple #[.int k a, .bool c]) = .returned (.tuple #[.int k b, .bool c]) := by rw [h]
set_option maxRecDepth 20000 in
set_option maxHeartbeats 1000000 in
theorem dec_neg (S B D : ByteArray) (w : World) (s1 : 10 ≤ S.size) (s2 : S.size ≤ 40) (e1 : S.extract 0 6 = { data := #[65, 99, 116, 105, 111, 110] })
   (f6 : (S[6].toNat : Int) = 40) (f7 : ((S[S.size - 1].toNat : Int) != 41) = false)
   (e3 : S.extract 7 (S.size - 1) = B) (b1 : 2 ≤ B.size) (b2 : B.size ≤ 40) (b0 : ((B[0].toNat : Int) == 45) = true) (e4 : B.extract 1 B.size = D) (d1 : 1 ≤ D.size) (d2 : D.size ≤ 19)
   (dn : ¬ D = ByteArray.empty) (d0 : ((D[0].toNat : Int) == 48) = false) (dd : ∀ c ∈ D.data.toList, 48 ≤ (c.toNat : Int) ∧ (c.toNat : Int) ≤ 57)
   (u : Int) (hu : val D.data.toList = u) (hu0 : 1 ≤ u) (hu1 : u ≤ 9223372036854775808) :
    Calls Tryd.prog 13 #[.string S, .string { data := #[65, 99, 116, 105, 111, 110] }] w fun e w' => e = .returned (.tuple #[.int .i64 (-u), .bool true]) ∧ w' = w := by
  have HU : Hid (val D.data.toList = u) := hu
  have DD : Hid (∀ c ∈ D.data.toList, 48 ≤ (c.toNat : Int) ∧ (c.toNat : Int) ≤ 57) := dd
  clear hu dd
  have dz : ((D.size : Int) == 0) = false := by simp; omega
  go_enter Tryd.func13, Tryd.ntmps13
  go_wp2_with fail
  go_loop [9, 10] (fun m i => ∃ k : Nat, k ≤ D.size ∧ i = .int .i64 k ∧ ∃ a : Int, m = .int .u64 a ∧ Hid (a = val (D.data.toList.take k))) (fun _ i => D.size - (intOf i).toNat)
  case atStart => exact ⟨0, Nat.zero_le _, rfl, 0, rfl, by simp [Hid, val]⟩
  case round =>
    obtain ⟨k, hk, rfl, a, rfl, HA⟩ := hrel
    by_cases hlt : k < D.size
    · have hv := val_take D.data.toList DD.out k (by omega)
      rw [← HA.out] at hv
      obtain ⟨a0, a1⟩ := hv
      obtain ⟨c0, c1⟩ := DD.out _ (mem_at D k hlt)
      go_wp2
      go_round
      case rel => exact ⟨k + 1, by omega, by go_num, _, rfl, by show _ = _; rw [take_snoc D k hlt, val_snoc, ← HA.out]⟩
      case measure => simp [intOf]; omega
    · have ha : a = u := by rw [HA.out, ← HU.out, List.take_of_length_le (by simp; omega)]
      subst ha
      go_wp2
      go_ret2
      exact ⟨ret_pair (flip64 a hu0 hu1), rfl⟩
set_option maxRecDepth 20000 in
set_option maxHeartbeats 1000000 in
theorem dec_pos (S D : ByteArray) (w : World) (s1 : 9 ≤ S.size) (s2 : S.size ≤ 40) (e1 : S.extract 0 6 = { data := #[65, 99, 116, 105, 111, 110] })
   (f6 : (S[6].toNat : Int) = 40) (f7 : ((S[S.size - 1].toNat : Int) != 41) = false)
   (e3 : S.extract 7 (S.size - 1) = D) (d1 : 1 ≤ D.size) (d2 : D.size ≤ 19) (d45 : ((D[0].toNat : Int) == 45) = false)
   (dn : ¬ D = ByteArray.empty) (d0 : ((D[0].toNat : Int) == 48) = false) (dd : ∀ c ∈ D.data.toList, 48 ≤ (c.toNat : Int) ∧ (c.toNat : Int) ≤ 57)
   (u : Int) (hu : val D.data.toList = u) (hu0 : 1 ≤ u) (hu1 : u ≤ 9223372036854775807) :
    Calls Tryd.prog 13 #[.string S, .string { data := #[65, 99, 116, 105, 111, 110] }] w fun e w' => e = .returned (.tuple #[.int .i64 u, .bool true]) ∧ w' = w := by
  have HU : Hid (val D.data.toList = u) := hu
  have DD : Hid (∀ c ∈ D.data.toList, 48 ≤ (c.toNat : Int) ∧ (c.toNat : Int) ≤ 57) := dd
  clear hu dd
  have dz : ((D.size : Int) == 0) = false := by simp; omega
  go_enter Tryd.func13, Tryd.ntmps13
  go_wp2_with fail
  go_loop [9, 10] (fun m i => ∃ k : Nat, k ≤ D.size ∧ i = .int .i64 k ∧ ∃ a : Int, m = .int .u64 a ∧ Hid (a = val (D.data.toList.take k))) (fun _ i => D.size - (intOf i).toNat)
  case atStart => exact ⟨0, Nat.zero_le _, rfl, 0, rfl, by simp [Hid, val]⟩
  case round =>
    obtain ⟨k, hk, rfl, a, rfl, HA⟩ := hrel
    by_cases hlt : k < D.size
    · have hv := val_take D.data.toList DD.out k (by omega)
      rw [← HA.out] at hv
      obtain ⟨a0, a1⟩ := hv
      obtain ⟨c0, c1⟩ := DD.out _ (mem_at D k hlt)
      go_wp2
      go_round
      case rel => exact ⟨k + 1, by omega, by go_num, _, rfl, by show _ = _; rw [take_snoc D k hlt, val_snoc, ← HA.out]⟩
      case measure => simp [intOf]; omega
    · have ha : a = u := by rw [HA.out, ← HU.out, List.take_of_length_le (by simp; omega)]
      subst ha
      go_wp2
      go_ret2
      exact ⟨ret_pair rfl, rfl⟩

theorem act_list (n : Int) : (actB n).data.toList = [65, 99, 116, 105, 111, 110, 40] ++ Lib.itoa n ++ [41] := by
  simp [actB]
theorem act_size (n : Int) : (actB n).size = 8 + (Lib.itoa n).length := by
  show ((actB n).data).size = _
  simp [actB]; omega
theorem act_head (n : Int) : (actB n).extract 0 6 = { data := #[65, 99, 116, 105, 111, 110] } := by
  apply ByteArray.ext
  apply Array.toList_inj.1
  simp [actB]
theorem at_list (s : ByteArray) (k : Nat) (h : k < s.size) : s[k] = s.data.toList[k]'(by simpa using h) := rfl
theorem act_six (n : Int) (h : 6 < (actB n).size) : (((actB n)[6]'h).toNat : Int) = 40 := by
  rw [at_list]; simp [act_list]
theorem act_last (n : Int) (h : (actB n).size - 1 < (actB n).size) : ((((actB n)[(actB n).size - 1]'h).toNat : Int) != 41) = false := by
  rw [at_list]
  have e : (actB n).size - 1 = 7 + (Lib.itoa n).length := by rw [act_size]; omega
  simp only [e, act_list]
  rw [List.getElem_append_right (by simp; omega)]
  simp
theorem act_body (n : Int) : (actB n).extract 7 ((actB n).size - 1) = { data := (Lib.itoa n).toArray } := by
  apply ByteArray.ext
  apply Array.toList_inj.1
  rw [act_size]
  simp [actB]
theorem tail_body (l : List UInt8) : ({ data := (45 :: l).toArray } : ByteArray).extract 1 ({ data := (45 :: l).toArray } : ByteArray).size = { data := l.toArray } := by
  apply ByteArray.ext
  apply Array.toList_inj.1
  have : ({ data := (45 :: l).toArray } : ByteArray).size = l.length + 1 := by
    show ((45 :: l).toArray).size = _
    simp
  rw [this]
  simp
theorem size_mk (l : List UInt8) : ({ data := l.toArray } : ByteArray).size = l.length := by
  show (l.toArray).size = _
  simp
theorem dec_act (n : Int) (h0 : -9223372036854775808 ≤ n) (h1 : n ≤ 9223372036854775807) (hn : n ≠ 0) (w : World) :
    Calls Tryd.prog 13 #[.string (actB n), .string { data := #[65, 99, 116, 105, 111, 110] }] w fun e w' => e = .returned (.tuple #[.int .i64 n, .bool true]) ∧ w' = w := by
  have hl := Lib.itoa_length_le n h0 h1
  have hs := act_size n
  by_cases hneg : n < 0
  · obtain ⟨u, rfl⟩ : ∃ u : Nat, n = -(u : Int) := ⟨n.natAbs, by omega⟩
    have hu1 : 1 ≤ u := by omega
    have ei : Lib.itoa (-(u : Int)) = 45 :: Lib.decDigits u := Lib.itoa_neg u hu1
    obtain ⟨c, r, hc, hc2⟩ := first_dec u hu1
    have hd19 := length_dec u (by omega) hu1
    have hil : (Lib.itoa (-(u : Int))).length = (Lib.decDigits u).length + 1 := by rw [ei]; simp
    have hdl : (Lib.decDigits u).length = r.length + 1 := by rw [hc]; simp
    have hz : ({ data := (Lib.decDigits u).toArray } : ByteArray).size = (Lib.decDigits u).length := size_mk _
    have hz1 : ({ data := (Lib.itoa (-(u : Int))).toArray } : ByteArray).size = (Lib.itoa (-(u : Int))).length := size_mk _
    refine dec_neg (actB (-(u : Int))) { data := (Lib.itoa (-(u : Int))).toArray } { data := (Lib.decDigits u).toArray } w (by omega) (by omega) (act_head _) (act_six _ (by omega)) (act_last _ (by omega)) (act_body _) (by omega) (by omega) ?_ ?_ (by omega) (by omega) ?_ ?_ ?_ (u : Int) ?_ (by omega) (by omega)
    · rw [at_list]; simp [ei]
    · rw [ei]; exact tail_body _
    · intro e
      have := congrArg ByteArray.size e
      rw [hz, hdl] at this
      exact absurd this (by simp)
    · rw [at_list]
      have : (Lib.decDigits u)[0]'(by omega) = c := by simp [hc]
      simp [this]; omega
    · intro x hx
      exact digit_dec u x (by simpa using hx)
    · simpa using val_dec u
  · obtain ⟨u, rfl⟩ : ∃ u : Nat, n = (u : Int) := ⟨n.toNat, by omega⟩
    have hu1 : 1 ≤ u := by omega
    have ei : Lib.itoa (u : Int) = Lib.decDigits u := Lib.itoa_nonneg u
    obtain ⟨c, r, hc, hc2⟩ := first_dec u hu1
    have hd19 := length_dec u (by omega) hu1
    have hil : (Lib.itoa (u : Int)).length = (Lib.decDigits u).length := by rw [ei]
    have hdl : (Lib.decDigits u).length = r.length + 1 := by rw [hc]; simp
    have hz : ({ data := (Lib.itoa (u : Int)).toArray } : ByteArray).size = (Lib.itoa (u : Int)).length := size_mk _
    have ha : (Lib.itoa (u : Int))[0]'(by omega) = c := by simp [ei, hc]
    refine dec_pos (actB (u : Int)) { data := (Lib.itoa (u : Int)).toArray } w (by omega) (by omega) (act_head _) (act_six _ (by omega)) (act_last _ (by omega)) (act_body _) (by omega) (by omega) ?_ ?_ ?_ ?_ (u : Int) ?_ (by omega) (by omega)
    · rw [at_list]; simp [ha]; omega
    · intro e
      have := congrArg ByteArray.size e
      rw [hz, hil, hdl] at this
      exact absurd this (by simp)
    · rw [at_list]; simp [ha]; omega
    · intro x hx
      exact digit_dec u x (by rw [← ei]; simpa using hx)
    · rw [ei]; simpa using val_dec u
theorem act_ne (n : Int) (c : UInt8) (l : List UInt8) (h : c ≠ 65) : ((actB n).toList == c :: l) = false := by
  rw [ByteArray.toList_eq, act_list]
  simp
  intro e
  exact absurd e.symm h
set_option maxRecDepth 20000 in
set_option maxHeartbeats 400000 in
theorem decodeAction_other (n : Int) (h0 : -9223372036854775808 ≤ n) (h1 : n ≤ 9223372036854775807) (hn : n < 0 ∨ 4 < n) (w : World) :
    Calls Tryd.prog 9 #[.string (actB n)] w fun e w' => e = .returned (.tuple #[.int .i64 n, .bool true]) ∧ w' = w := by
  have hn0 : n ≠ 0 := by omega
  have t0 := act_ne n 108 [111, 99, 107, 95, 97, 99, 113, 117, 105, 114, 101, 100] (by decide)
  have t1 := act_ne n 108 [111, 99, 107, 95, 110, 111, 116, 95, 111, 98, 116, 97, 105, 110, 101, 100] (by decide)
  have t2 := act_ne n 108 [111, 99, 107, 95, 114, 101, 108, 101, 97, 115, 101, 100] (by decide)
  have t3 := act_ne n 108 [111, 99, 107, 95, 108, 111, 115, 116] (by decide)
  have t4 := act_ne n 114 [101, 110, 101, 119, 95, 102, 97, 105, 108, 101, 100] (by decide)
  rcases hn with hn | hn
  all_goals
    go_enter Tryd.func9, Tryd.ntmps9
    go_wp2_with (go_at_call 13; refine (dec_act n h0 h1 hn0 _).mono ?_; rintro e w' ⟨rfl, rfl⟩)
    go_ret2
    exact ⟨rfl, rfl⟩
set_option maxRecDepth 20000 in
set_option maxHeartbeats 400000 in
theorem decodes_other (n : Int) (h0 : -9223372036854775808 ≤ n) (h1 : n ≤ 9223372036854775807) (hn : n < 0 ∨ 4 < n) (w : World) (htab : Lib.TabIs Tryd.prog w powName .u64 Lib.pow10Tab) :
    Calls Tryd.prog 3 #[.int .i64 n] w fun e w' => e = .returned (.bool true) ∧ Below w.heap.size w w' := by
  go_enter Tryd.func3, Tryd.ntmps3
  go_wp2_with (first | (go_at_call 8; refine (action_other n h0 h1 hn _ htab).mono ?_; rintro e w1 ⟨rfl, hb1⟩) | (go_at_call 9; refine (decodeAction_other n h0 h1 hn _).mono ?_; rintro e w2 ⟨rfl, rfl⟩))
  go_ret
  exact ⟨rfl, hb1⟩
set_option maxRecDepth 20000 in
set_option maxHeartbeats 400000 in
theorem decodes_known (n : Int) (h : n = 0 ∨ n = 1 ∨ n = 2 ∨ n = 3 ∨ n = 4) (w : World) :
    Calls Tryd.prog 3 #[.int .i64 n] w fun e w' => e = .returned (.bool true) ∧ Below w.heap.size w w' := by
  rcases h with rfl | rfl | rfl | rfl | rfl
  all_goals
    go_enter Tryd.func3, Tryd.ntmps3
    go_wp2
    go_ret
    exact ⟨rfl, Below.refl _ _⟩
theorem decodes_any (n : Int) (h0 : -9223372036854775808 ≤ n) (h1 : n ≤ 9223372036854775807) (w : World) (htab : Lib.TabIs Tryd.prog w powName .u64 Lib.pow10Tab) :
    Calls Tryd.prog 3 #[.int .i64 n] w fun e w' => e = .returned (.bool true) ∧ Below w.heap.size w w' := by
  by_cases hk : n < 0 ∨ 4 < n
  · exact decodes_other n h0 h1 hk w htab
  · exact decodes_known n (by omega) w
end Go.Proofs.Qxb6604495aDoor.Decode
