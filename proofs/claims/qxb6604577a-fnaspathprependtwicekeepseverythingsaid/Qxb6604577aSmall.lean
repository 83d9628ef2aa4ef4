/-
  zzSameU32, the byte counts and zzPathTooBig, zzCloneU32.
-/
import Derived.Test.Qxb6604577aBase
import Derived.Deep.QuietTactic
import Derived.BigQuiet
import Derived.Laws.CopyOwn
import Derived.Deep.OwnRows
namespace Go.Proofs.Qxb6604577a
open Go.RowKit

/-- The call answers a bool; where it is true, p. -/
def Answer (p : Prop) (e : Ending) : Prop := ∃ bb, e = .returned (.bool bb) ∧ (bb = true → p)
/-- The header of a row that is not empty leads to cells. -/
theorem U32.form {w : World} {A : Option Addr} {xs : List Int} {c : Nat} (h : U32 w A xs c) (hx : 0 < xs.length) : ∃ b o, A = some ⟨b, o, none⟩ ∧ ∀ j (hj : j < xs.length), w.cell? ⟨b, o + j, none⟩ = some (.int .u32 xs[j]) := by
  cases A with
  | none => have := (h.1 rfl).1; subst this; simp at hx
  | some ad =>
    have h0 := h.2 ad rfl 0 xs[0] (List.getElem?_eq_getElem hx)
    obtain ⟨b, o, s⟩ := ad
    cases s with
    | some x => simp [Addr.add, World.cell?] at h0; split at h0 <;> simp at h0
    | none =>
      refine ⟨b, o, rfl, fun j hj => ?_⟩
      have := h.2 _ rfl j xs[j] (List.getElem?_eq_getElem hj)
      have e : (⟨b, o, none⟩ : Addr).add j = ⟨b, o + j, none⟩ := by unfold Addr.add; split <;> simp_all
      rwa [e] at this

set_option maxRecDepth 20000 in
set_option maxHeartbeats 400000 in
theorem same_any (w : World) (A1 A2 : Option Addr) (xs : List Int) (c1 c2 : Nat) (h1 : U32 w A1 xs c1) (h2 : U32 w A2 xs c2) (hm : xs.length ≤ 4194304) :
    Calls Try.prog 12 #[.slice A1 xs.length c1, .slice A2 xs.length c2] w fun e w' => e = .returned (.bool true) ∧ ∃ d, w' = w.drewN d := by
  by_cases hx : 0 < xs.length
  · obtain ⟨b1, o1, rfl, k1⟩ := h1.form hx
    obtain ⟨b2, o2, rfl, k2⟩ := h2.form hx
    have K1 : Hid (∀ j (hj : j < xs.length), w.cell? ⟨b1, o1 + j, none⟩ = some (.int .u32 xs[j])) := k1
    have K2 : Hid (∀ j (hj : j < xs.length), w.cell? ⟨b2, o2 + j, none⟩ = some (.int .u32 xs[j])) := k2
    clear h1 h2 k1 k2
    go_enter Try.func12, Try.ntmps12
    go_wp2_with fail
    go_loopw [5] (fun i wr => ∃ k : Nat, k ≤ xs.length ∧ i = .int .i64 k ∧ ∃ d, wr = w.drewN d) (fun i _ => xs.length - (intOf i).toNat)
    case atStart => exact ⟨0, Nat.zero_le _, rfl, 0, rfl⟩
    case round =>
      obtain ⟨k, hk, rfl, d, rfl⟩ := hrel
      by_cases hlt : k < xs.length
      · have q1 := K1.out k hlt
        have q2 := K2.out k hlt
        go_wp2_with fail
        go_quiet (fail)
        go_wp2
        go_roundw
        case rel => exact ⟨k + 1, by omega, by go_num, _, rfl⟩
        case measure => simp [intOf]; omega
      · go_wp2
        go_ret
        exact ⟨rfl, d, rfl⟩
  · have e : xs = [] := List.length_eq_zero_iff.1 (by omega)
    subst e
    go_enter Try.func12, Try.ntmps12
    go_wp2_with fail
    go_loop [5] (fun i => i = .int .i64 0) (fun _ => 0)
    case atStart => rfl
    case round =>
      subst hrel
      go_wp2
      go_ret
      exact ⟨rfl, 0, rfl⟩
set_option maxRecDepth 20000 in
set_option maxHeartbeats 400000 in
theorem bytes7_any (w : World) (TA RA : Option Addr) (tl tc b o n c : Nat) (a0 : Int) (A : Nat → Option Addr) (X : Nat → List Int) (C : Nat → Nat) (hRA : 0 < n → RA = some ⟨b, o, none⟩) (hR : Rows32 w b o n A X C) :
    Calls Try.prog 7 #[.slice TA tl tc, .slice RA n c, .int .u32 a0] w fun e w' => Answer (tl + n + (flat X n).length ≤ 1048576) e ∧ w' = w := by
  have HR : Hid (Rows32 w b o n A X C) := hR
  clear hR
  by_cases h1 : 1048576 < (tl : Int)
  · go_enter Try.func7, Try.ntmps7
    go_wp2_with fail
    go_ret
    exact ⟨⟨false, rfl, fun h => by cases h⟩, rfl⟩
  by_cases h2 : 1048576 < (n : Int)
  · go_enter Try.func7, Try.ntmps7
    go_wp2_with fail
    go_ret
    exact ⟨⟨false, rfl, fun h => by cases h⟩, rfl⟩
  by_cases h3 : 1048576 < (tl : Int) + (n : Int)
  · go_enter Try.func7, Try.ntmps7
    go_wp2_with fail
    go_ret
    exact ⟨⟨false, rfl, fun h => by cases h⟩, rfl⟩
  go_enter Try.func7, Try.ntmps7
  go_wp2_with fail
  go_loop [7, 8] (fun z i => ∃ k : Nat, k ≤ n ∧ i = .int .i64 k ∧ ∃ f : Nat, f ≤ 1048576 ∧ z = .int .i64 f ∧ Hid (f = tl + n + (flat X k).length)) (fun _ i => n - (intOf i).toNat)
  case atStart => exact ⟨0, Nat.zero_le _, rfl, tl + n, by omega, by go_num, rfl⟩
  case round =>
    obtain ⟨k, hk, rfl, f, hf, rfl, HF⟩ := hrel
    by_cases hlt : k < n
    · have e := hRA (by omega)
      subst e
      obtain ⟨hc, _⟩ := HR.out k hlt
      have hfs := congrArg List.length (flat_succ X k)
      rw [List.length_append] at hfs
      have HS : Hid ((flat X (k + 1)).length = (flat X k).length + (X k).length) := hfs
      clear hfs
      by_cases h4 : 1048576 < ((X k).length : Int)
      · go_wp2
        go_ret
        exact ⟨⟨false, rfl, fun h => by cases h⟩, rfl⟩
      · by_cases h5 : 1048576 < (f : Int) + ((X k).length : Int)
        · go_wp2
          go_ret
          exact ⟨⟨false, rfl, fun h => by cases h⟩, rfl⟩
        · go_wp2
          go_round
          case rel => exact ⟨k + 1, by omega, by go_num, f + (X k).length, by omega, by go_num, by show _ = _; rw [HS.out, HF.out]; omega⟩
          case measure => simp [intOf]; omega
    · have hkn : k = n := by omega
      subst hkn
      go_wp2
      go_ret
      refine ⟨⟨true, rfl, fun _ => ?_⟩, rfl⟩
      rw [← HF.out]; exact hf
set_option maxRecDepth 20000 in
set_option maxHeartbeats 400000 in
theorem bytes14_any (w : World) (TA RA : Option Addr) (tl tc b o n c : Nat) (a0 a1 : Int) (A : Nat → Option Addr) (X : Nat → List Int) (C : Nat → Nat) (hRA : 0 < n → RA = some ⟨b, o, none⟩) (hR : Rows32 w b o n A X C) :
    Calls Try.prog 14 #[.slice TA tl tc, .slice RA n c, .int .u32 a0, .int .u32 a1] w fun e w' => Answer (tl + n + (flat X n).length ≤ 1048576) e ∧ w' = w := by
  have HR : Hid (Rows32 w b o n A X C) := hR
  clear hR
  by_cases h1 : 1048576 < (tl : Int)
  · go_enter Try.func14, Try.ntmps14
    go_wp2_with fail
    go_ret
    exact ⟨⟨false, rfl, fun h => by cases h⟩, rfl⟩
  by_cases h2 : 1048576 < (n : Int)
  · go_enter Try.func14, Try.ntmps14
    go_wp2_with fail
    go_ret
    exact ⟨⟨false, rfl, fun h => by cases h⟩, rfl⟩
  by_cases h3 : 1048576 < (tl : Int) + (n : Int)
  · go_enter Try.func14, Try.ntmps14
    go_wp2_with fail
    go_ret
    exact ⟨⟨false, rfl, fun h => by cases h⟩, rfl⟩
  go_enter Try.func14, Try.ntmps14
  go_wp2_with fail
  go_loop [9, 10] (fun z i => ∃ k : Nat, k ≤ n ∧ i = .int .i64 k ∧ ∃ f : Nat, f ≤ 1048576 ∧ z = .int .i64 f ∧ Hid (f = tl + n + (flat X k).length)) (fun _ i => n - (intOf i).toNat)
  case atStart => exact ⟨0, Nat.zero_le _, rfl, tl + n, by omega, by go_num, rfl⟩
  case round =>
    obtain ⟨k, hk, rfl, f, hf, rfl, HF⟩ := hrel
    by_cases hlt : k < n
    · have e := hRA (by omega)
      subst e
      obtain ⟨hc, _⟩ := HR.out k hlt
      have hfs := congrArg List.length (flat_succ X k)
      rw [List.length_append] at hfs
      have HS : Hid ((flat X (k + 1)).length = (flat X k).length + (X k).length) := hfs
      clear hfs
      by_cases h4 : 1048576 < ((X k).length : Int)
      · go_wp2
        go_ret
        exact ⟨⟨false, rfl, fun h => by cases h⟩, rfl⟩
      · by_cases h5 : 1048576 < (f : Int) + ((X k).length : Int)
        · go_wp2
          go_ret
          exact ⟨⟨false, rfl, fun h => by cases h⟩, rfl⟩
        · go_wp2
          go_round
          case rel => exact ⟨k + 1, by omega, by go_num, f + (X k).length, by omega, by go_num, by show _ = _; rw [HS.out, HF.out]; omega⟩
          case measure => simp [intOf]; omega
    · have hkn : k = n := by omega
      subst hkn
      go_wp2
      go_ret
      refine ⟨⟨true, rfl, fun _ => ?_⟩, rfl⟩
      rw [← HF.out]; exact hf
set_option maxRecDepth 20000 in
set_option maxHeartbeats 400000 in
theorem big_any (w : World) (TA RA : Option Addr) (tl tc b o n c : Nat) (A : Nat → Option Addr) (X : Nat → List Int) (C : Nat → Nat) (hRA : 0 < n → RA = some ⟨b, o, none⟩) (hR : Rows32 w b o n A X C) (hs : tl + n + (flat X n).length ≤ 1048576) :
    Calls Try.prog 8 #[.slice TA tl tc, .slice RA n c] w fun e w' => Answer True e ∧ w' = w := by
  have HR : Hid (Rows32 w b o n A X C) := hR
  clear hR
  have q1 : (tl : Int) ≤ 1048576 := by omega
  have q2 : (n : Int) ≤ 1048576 := by omega
  by_cases h1 : 65536 < (tl : Int)
  · go_enter Try.func8, Try.ntmps8
    go_wp2_with fail
    go_ret
    exact ⟨⟨true, rfl, fun _ => trivial⟩, rfl⟩
  by_cases h2 : 65536 < (n : Int)
  · go_enter Try.func8, Try.ntmps8
    go_wp2_with fail
    go_ret
    exact ⟨⟨true, rfl, fun _ => trivial⟩, rfl⟩
  go_enter Try.func8, Try.ntmps8
  go_wp2_with fail
  go_loop [5, 6] (fun z i => ∃ k : Nat, k ≤ n ∧ i = .int .i64 k ∧ ∃ f : Int, 0 ≤ f ∧ f ≤ 16777216 ∧ z = .int .i64 f) (fun _ i => n - (intOf i).toNat)
  case atStart => exact ⟨0, Nat.zero_le _, rfl, _, by omega, by omega, rfl⟩
  case round =>
    obtain ⟨k, hk, rfl, f, hf0, hf, rfl⟩ := hrel
    by_cases hlt : k < n
    · have e := hRA (by omega)
      subst e
      obtain ⟨hc, _⟩ := HR.out k hlt
      have hfk := flat_mono X (show k + 1 ≤ n by omega)
      have hfs := congrArg List.length (flat_succ X k)
      rw [List.length_append] at hfs
      have q3 : ((X k).length : Int) ≤ 1048576 := by omega
      clear hfs hfk
      by_cases h4 : 1048576 < f + 4 * ((X k).length : Int)
      · go_wp2
        go_ret
        exact ⟨⟨true, rfl, fun _ => trivial⟩, rfl⟩
      · go_wp2
        go_round
        case rel => exact ⟨k + 1, by omega, by go_num, _, by omega, by omega, rfl⟩
        case measure => simp [intOf]; omega
    · go_wp2
      go_ret
      exact ⟨⟨_, rfl, fun _ => trivial⟩, rfl⟩
theorem blk_new (w : World) (o : Obj) : (w.alloc o).heap[w.heap.size]? = some o := by
  show (w.heap.push o)[w.heap.size]? = _
  simp
theorem sz22 : (Try.prog.info? 22).map (·.size) = some 1 := by kernel_rfl
theorem U32_of_block {w : World} {g : Nat} {xs : List Int} {c : Nat} {t : TypeId} {fr : Nat × Nat} (h : w.heap[g]? = some (.cells (u32s xs).toArray t fr)) : U32 w (some ⟨g, 0, none⟩) xs c := by
  refine ⟨fun e => (by cases e), fun ad ha j u hu => ?_⟩
  cases ha
  have e : (⟨g, 0, none⟩ : Addr).add j = ⟨g, j, none⟩ := by unfold Addr.add; split <;> simp_all
  rw [e]
  simp [World.cell?, h, u32s, hu]
set_option maxRecDepth 20000 in
set_option maxHeartbeats 400000 in
theorem clone_any (w : World) (A : Option Addr) (xs : List Int) (c : Nat) (h : U32 w A xs c) (hm : xs.length ≤ 1048576) :
    Calls Try.prog 16 #[.slice A xs.length c] w fun e w' => ∃ A' c', e = .returned (.slice A' xs.length c') ∧ U32 w' A' xs c' ∧ (A' = none ↔ A = none) ∧ (∀ ad, A' = some ad → w.heap.size ≤ ad.block) ∧ Below w.heap.size w w' := by
  have hnil := fun (w : World) (a : Option Addr) (n c : Nat) => Lib.run_eql_slice_nil (P := Try.prog) w 33 22 a n c 0 0 Try.underlying33
  cases A with
  | none =>
    obtain ⟨rfl, rfl⟩ := h.1 rfl
    go_enter Try.func16, Try.ntmps16
    go_wp2
    go_ret
    exact ⟨none, 0, rfl, ⟨fun _ => ⟨rfl, rfl⟩, fun _ e => by cases e⟩, by simp, (fun _ e => by cases e), Below.refl _ _⟩
  | some ad =>
    have HU : Hid (U32 w (some ad) xs c) := h
    clear h
    have hmk := run_make_row' (P := Try.prog) 33 22 (.int .u32 0) 4 Try.underlying33 info22 rfl .i64 .i64 xs.length (by omega) (by omega)
    go_enter Try.func16, Try.ntmps16
    go_wp2_with (refine wpList_copy_splice rfl (.tmp 9) (.tmp 10) 33 33 rfl 22 Try.underlying33 sz22 (some ⟨w.heap.size, 0, none⟩) (some ad) xs.length xs.length xs.length c rfl rfl w.heap.size 0 (madeCells #[.int .u32 0] xs.length).toList 22 ?c1 (u32s xs) ?c2 ?c3 ?c4 ?c5 w.heap.size w ?c6 (Nat.le_refl _) ?_)
    case c1 => rw [Array.toArray_toList]; exact blk_new _ _
    case c2 => rw [u32s_length]; simp
    case c3 => exact fun _ j v hv => cell_on ((Below.refl _ _).alloc (Nat.le_refl _) _) (src_cells HU.out ad rfl j v hv)
    case c4 => simp [u32s_length, size_madeCells]
    case c5 => exact u32s_one _
    case c6 => exact (Below.refl _ _).alloc (Nat.le_refl _) _
    · intro w1 H1 hb1
      have e1 : splice (madeCells #[Value.int .u32 0] xs.length).toList 0 (u32s xs) = u32s xs := by
        unfold splice
        simp [u32s_length, size_madeCells]
      have H2 : Hid (w1.heap[w.heap.size]? = some (.cells (u32s xs).toArray 22 (0, 0))) := by rw [e1] at H1; exact H1
      clear H1 e1
      go_wp2
      go_ret
      exact ⟨some ⟨w.heap.size, 0, none⟩, xs.length, rfl, U32_of_block H2.out, by simp, (fun _ e => by cases e; exact Nat.le_refl _), hb1⟩
end Go.Proofs.Qxb6604577a
