/-
  FnASPathPrependExact: the walk, by whether a new segment is put in front.
-/
import Derived.Test.Qxb6604577aPrep
import Derived.Test.Qxb6604577aBuild
import Derived.Test.Qxb6604577aFlat
import Derived.Deep.CutRange
import Derived.Deep.Cut
namespace Go.Proofs.Qxb6604577a
open Go.RowKit
/-- What came in. -/
def Came (w : World) (TA RA : Option Addr) (tb tof tl tc b o n : Nat) (T : Nat → Int) (A : Nat → Option Addr) (X : Nat → List Int) (C : Nat → Nat) : Prop :=
  (TA = none → tl = 0 ∧ tc = 0) ∧ (0 < tl → TA = some ⟨tb, tof, none⟩) ∧ (∀ i, i < tl → w.cell? ⟨tb, tof + i, none⟩ = some (.int .u8 (T i))) ∧ (0 < n → RA = some ⟨b, o, none⟩) ∧ Rows32 w b o n A X C
theorem flat_cons (xs : List Int) (X : Nat → List Int) (n : Nat) : flat (cons xs X) (n + 1) = xs ++ flat X n := by
  induction n with
  | zero => simp [flat, cons, List.range_succ]
  | succ n ih => rw [flat_succ, ih, flat_succ X n, List.append_assoc]; rfl
theorem flat_join (x : Int) (X : Nat → List Int) (m : Nat) : flat (cons (x :: X 0) fun i => X (i + 1)) (m + 1) = x :: flat X (m + 1) := by
  have e : cons (X 0) (fun i => X (i + 1)) = X := by funext i; cases i <;> rfl
  have h := flat_cons (X 0) (fun i => X (i + 1)) m
  rw [e] at h
  rw [flat_cons, h]; rfl
theorem below_draws (w : World) (d : Nat) : Below w.heap.size w (w.drewN d) := ⟨rfl, rfl, rfl, Nat.le_refl _, fun _ _ => rfl⟩
theorem below_draws' (B : Nat) (w : World) (d : Nat) : Below B w (w.drewN d) := ⟨rfl, rfl, rfl, Nat.le_refl _, fun _ _ => rfl⟩
theorem size_more (w : World) (d : Nat) (o : Obj) : w.heap.size < ((w.drewN d).alloc o).heap.size := by
  have h : ((w.drewN d).alloc o).heap.size = (w.drewN d).heap.size + 1 := by simp
  rw [h]
  exact Nat.lt_succ_self _
/-- An owned row of uint32s, as a header and its numbers. -/
theorem u32_of_own {w : World} {base : Nat} {v : Value} {xs : List Int} (h : w.ownsRow base 22 1 v xs.length (u32s xs)) : ∃ A c, v = .slice A xs.length c ∧ U32 w A xs c := by
  rcases h.2 with ⟨rfl, h0⟩ | ⟨g, cap, cur, rfl, _, _⟩
  · have e : xs = [] := List.length_eq_zero_iff.1 h0
    subst e
    exact ⟨none, 0, rfl, fun _ => ⟨rfl, rfl⟩, fun _ e => by cases e⟩
  · refine ⟨_, _, rfl, (fun e => by cases e), fun ad ha j u hu => ?_⟩
    cases ha
    refine h.cells (g := g) rfl j _ ?_
    unfold u32s
    rw [List.getElem?_map, hu]
    rfl
set_option maxRecDepth 20000 in
set_option maxHeartbeats 1000000 in
theorem exact_open (w : World) (TA RA : Option Addr) (tb tof tl tc b o n c : Nat) (x : Int) (T : Nat → Int) (A : Nat → Option Addr) (X : Nat → List Int) (C : Nat → Nat) (hin : Came w TA RA tb tof tl tc b o n T A X C)
    (ho : n = 0 ∨ T 0 ≠ 2 ∨ 255 ≤ (X 0).length) :
    Calls Try.prog 4 #[.slice TA tl tc, .slice RA n c, .int .u32 x] w fun e w' => e = .returned (.bool true) ∧ Below w.heap.size w w' := by
  obtain ⟨h1, h2, h3, h4, h5⟩ := hin
  have HR : Hid (Rows32 w b o n A X C) := h5
  have HT : Hid (∀ i, i < tl → w.cell? ⟨tb, tof + i, none⟩ = some (.int .u8 (T i))) := h3
  have HA : Hid ((TA = none → tl = 0 ∧ tc = 0) ∧ (0 < tl → TA = some ⟨tb, tof, none⟩) ∧ (0 < n → RA = some ⟨b, o, none⟩)) := ⟨h1, h2, h4⟩
  have HO : Hid (n = 0 ∨ T 0 ≠ 2 ∨ 255 ≤ (X 0).length) := ho
  clear h1 h2 h3 h4 h5 ho
  go_enter Try.func4, Try.ntmps4
  go_wp2_with fail
  refine (bytes7_any w TA RA tl tc b o n c x A X C HA.out.2.2 HR.out).mono ?_
  rintro e w1 ⟨⟨bb, rfl, hs0⟩, rfl⟩
  cases bb with
  | false =>
    go_wp2
    go_ret
    exact ⟨rfl, Below.refl _ _⟩
  | true =>
    have hs := hs0 rfl
    clear hs0
    go_wp2_with fail
    refine (big_any _ TA RA tl tc b o n c A X C HA.out.2.2 HR.out hs).mono ?_
    rintro e w1 ⟨⟨bb, rfl, _⟩, rfl⟩
    cases bb with
    | true =>
      go_wp2
      go_ret
      exact ⟨rfl, Below.refl _ _⟩
    | false =>
      by_cases hl : tl = n
      · subst hl
        have hne : ((tl : Int) != (tl : Int)) = false := by simp
        have hfl : (flat X tl).length ≤ 1048576 := by omega
        have HB : Hid (tl + 1 ≤ 1048576 ∧ (flat X tl).length + 1 ≤ 1048576) := by
          refine ⟨by omega, ?_⟩
          rcases Nat.eq_zero_or_pos tl with h | h
          · subst h; simp [flat]
          · omega
        go_wp2_with fail
        refine (build_any _ TA RA tb tof tl tc b o c T A X C HA.out.1 HA.out.2.1 HA.out.2.2 HT.out HR.out (by omega) hfl).mono ?_
        rintro e w2 ⟨PA, pc, g, A1, C1, rfl, hpc, hP0, hPA, hp, hni, hb2⟩
        go_wp2_with fail
        refine (prepend_open _ PA g tl pc x T A1 X C1 hP0 hPA hp (by omega) HO.out).mono ?_
        rintro e w3 ⟨gq, cap, a0, c0, rfl, hcap, hq, hb3⟩
        have hb13 : Below w1.heap.size w1 w3 := hb2.trans (hb3.mono hb2.size)
        have HR3 : Hid (Rows32 w3 b o tl A X C) := HR.out.on hb13
        have HT3 : Hid (∀ i, i < tl → w3.cell? ⟨tb, tof + i, none⟩ = some (.int .u8 (T i))) := fun i hi => cell_on hb13 (HT.out i hi)
        have HQ : Hid (PathAt w3 gq 0 (tl + 1) (cons 2 T) (cons (some a0) A1) (cons [x] X) (cons c0 C1)) := hq
        have HN : Hid (∀ i, i < tl → (A1 i = none ↔ A i = none)) := hni
        clear hq hni hp hP0 hPA hpc hb2 hb3
        go_upto_region 9 with fail
        go_cut [9] from 34 to 49 (fun s wc => s = .bool true ∧ w3 = wc)
        case first =>
          rcases HO.out with h0 | h2 | h25
          · have hz : ((tl : Int) == 0) = true := by simp; omega
            go_wp2_with fail
            go_meet
            exact ⟨rfl, rfl⟩
          · by_cases h0 : tl = 0
            · have hz : ((tl : Int) == 0) = true := by simp; omega
              go_wp2_with fail
              go_meet
              exact ⟨rfl, rfl⟩
            · have e1 := HA.out.2.1 (by omega)
              have t0 := HT3.out 0 (by omega)
              subst e1
              simp only [Nat.add_zero] at t0
              have hz : ((tl : Int) == 0) = false := by simp; omega
              have hz' : (0 : Int) < tl := by omega
              have h2' : (T 0 != 2) = true := by simp [h2]
              clear h2
              go_wp2_with fail
              go_meet
              exact ⟨rfl, rfl⟩
          · by_cases h0 : tl = 0
            · have hz : ((tl : Int) == 0) = true := by simp; omega
              go_wp2_with fail
              go_meet
              exact ⟨rfl, rfl⟩
            · have e1 := HA.out.2.1 (by omega)
              have t0 := HT3.out 0 (by omega)
              have e2 := HA.out.2.2 (by omega)
              have r0 := (HR3.out 0 (by omega)).1
              subst e1
              subst e2
              simp only [Nat.add_zero] at t0 r0
              have hz : ((tl : Int) == 0) = false := by simp; omega
              have hz' : (0 : Int) < tl := by omega
              have hl5 : 255 ≤ ((X 0).length : Int) := by omega
              by_cases h2 : T 0 = 2
              · have h2' : (T 0 != 2) = false := by simp [h2]
                clear h2
                go_wp2_with fail
                go_meet
                exact ⟨rfl, rfl⟩
              · have h2' : (T 0 != 2) = true := by simp [h2]
                clear h2
                go_wp2_with fail
                go_meet
                exact ⟨rfl, rfl⟩
        case rest =>
          obtain ⟨rfl, rfl⟩ := hcut
          go_wp2_with fail
          go_loopw [11] (fun jj wr => ∃ k : Nat, k ≤ tl + 1 ∧ jj = .int .i64 k ∧ ∃ d, wr = w3.drewN d) (fun jj _ => tl + 1 - (intOf jj).toNat)
          case atStart => exact ⟨0, Nat.zero_le _, rfl, 0, rfl⟩
          case round =>
            obtain ⟨k, hk, rfl, d, rfl⟩ := hrel
            by_cases hlt : k < tl + 1
            · cases k with
              | zero =>
                obtain ⟨q0, q1, _⟩ := HQ.out 0 (by omega)
                simp only [Nat.zero_mul, Nat.add_zero, Nat.zero_add, cons, List.length_cons, List.length_nil] at q0 q1
                go_wp2
                go_roundw
                case rel => exact ⟨1, by omega, by go_num, d, rfl⟩
                case measure => simp [intOf]
              | succ k =>
                have e1 := HA.out.2.1 (by omega)
                have e2 := HA.out.2.2 (by omega)
                subst e1
                subst e2
                obtain ⟨q0, q1, _⟩ := HQ.out (k + 1) (by omega)
                obtain ⟨r0, _⟩ := HR3.out k (by omega)
                have t0 := HT3.out k (by omega)
                simp only [Nat.zero_add, cons] at q0 q1
                have hnil := HN.out k (by omega)
                have hnl : (A1 k).isNone = (A k).isNone := by rw [Bool.eq_iff_iff]; simpa using hnil
                clear hnil
                have hnq := fun (w : World) (a : Option Addr) (n c : Nat) => Lib.run_eql_slice_nil (P := Try.prog) w 33 22 a n c 0 0 Try.underlying33
                go_wp2_with fail
                go_quiet (fail)
                go_wp2_with fail
                go_quiet (fail)
                go_wp2_with fail
                go_quiet (fail)
                go_wp2
                go_roundw
                case rel => exact ⟨k + 2, by omega, by go_num, _, rfl⟩
                case measure => simp [intOf]; omega
            · have hkn : k = tl + 1 := by omega
              clear hkn
              have hb34 : ∀ ob, Below w3.heap.size w3 ((w3.drewN d).alloc ob) := fun ob => ((below_draws w3 d).alloc (Nat.le_refl _) ob)
              go_wp2_with fail
              refine (flatArgs_any _ RA b o tl c A X C HA.out.2.2 (HR3.out.on (hb34 _)) (by omega) hfl).mono ?_
              rintro e w5 ⟨v5, rfl, hv5, hb5⟩
              obtain ⟨A5, c5, rfl, hu5⟩ := u32_of_own hv5
              have HU5 : Hid (U32 w5 A5 (flat X tl) c5) := hu5
              have HO5 : Hid (w5.ownsRow w3.heap.size 22 1 (.slice (some ⟨w3.heap.size, 0, none⟩) 1 1) 1 [.int .u32 x]) := own_one ((hb5.block w3.heap.size (size_more w3 d _)).trans (blk_new (w3.drewN d) _)) (Nat.le_refl _)
              have hb35 : Below w3.heap.size w3 w5 := (hb34 _).trans (hb5.mono (Nat.le_of_lt (size_more w3 d _)))
              obtain ⟨j0, hj, hy0, hy1, hy2⟩ := info_parts info22
              have HS : Hid ((u32s (flat X tl)).length = (flat X tl).length) := u32s_length _
              clear hv5 hu5 hb5
              go_wp2_with (at_builtin; refine wpList_append_any rfl (.tmp 125) (.tmp 127) 33 rfl w3.heap.size 22 j0 (.int .u32 0) 1 4 Try.underlying33 hj hy0 hy1 hy2 rfl (by decide) _ _ _ rfl HO5.out A5 (flat X tl).length c5 (u32s (flat X tl)) rfl ?c0 ?c1 ?c2 ?c3 ?c4 ?c5 ?c6 ?_)
              case c0 => simpa using HS.out
              case c1 => intro h; have := HU5.out.1 h; exact ⟨by simp [this.1], this.2⟩
              case c2 => exact src_cells HU5.out
              case c3 => exact u32s_one _
              case c4 => unfold maxLen; omega
              case c5 => omega
              case c6 => exact hb35.size
              · intro v6 w6 hv6 hg6
                have hb36 : Below w3.heap.size w3 w6 := below_grown hb35 HO5.out (Nat.le_refl _) hg6
                obtain ⟨A6, c6, rfl, hu6⟩ := u32_of_own (xs := x :: flat X tl) (by simpa [u32s, Nat.add_comm] using hv6)
                have HU6 : Hid (U32 w6 A6 (x :: flat X tl) c6) := hu6
                clear hv6 hg6 hu6
                go_wp2_with fail
                have hfc := flat_cons [x] X tl
                refine (flat_any _ _ gq 0 (tl + 1) cap _ _ _ _ (fun _ => rfl) (HQ.out.on hb36) HB.out.1 (by rw [hfc]; have := HB.out.2; simpa using this)).mono ?_
                rintro e w7 ⟨v7, rfl, hv7, hb7⟩
                rw [hfc] at hv7
                obtain ⟨A7, c7, rfl, hu7⟩ := u32_of_own hv7
                have HU7 : Hid (U32 w7 A7 (x :: flat X tl) c7) := hu7
                clear hfc hv7 hu7
                go_wp2_with fail
                refine (same_any w7 A7 A6 (x :: flat X tl) c7 c6 HU7.out (HU6.out.on hb7) (by have := HB.out.2; simp; omega)).mono ?_
                rintro e w8 ⟨rfl, d8, rfl⟩
                go_wp2
                go_ret
                exact ⟨rfl, hb13.trans ((hb36.trans (hb7.mono hb36.size)).mono hb13.size) |>.trans (below_draws' _ _ _)⟩
      · have hne : ((tl : Int) != (n : Int)) = true := by simp; omega
        go_wp2
        go_ret
        exact ⟨rfl, Below.refl _ _⟩
set_option maxRecDepth 20000 in
set_option maxHeartbeats 1000000 in
theorem exact_join (w : World) (TA RA : Option Addr) (tb tof tl tc b o n c : Nat) (x : Int) (T : Nat → Int) (A : Nat → Option Addr) (X : Nat → List Int) (C : Nat → Nat) (hin : Came w TA RA tb tof tl tc b o n T A X C)
    (hn0 : 0 < n) (hT0 : T 0 = 2) (hX0 : (X 0).length < 255) :
    Calls Try.prog 4 #[.slice TA tl tc, .slice RA n c, .int .u32 x] w fun e w' => e = .returned (.bool true) ∧ Below w.heap.size w w' := by
  obtain ⟨h1, h2, h3, h4, h5⟩ := hin
  have HR : Hid (Rows32 w b o n A X C) := h5
  have HT : Hid (∀ i, i < tl → w.cell? ⟨tb, tof + i, none⟩ = some (.int .u8 (T i))) := h3
  have HA : Hid ((TA = none → tl = 0 ∧ tc = 0) ∧ (0 < tl → TA = some ⟨tb, tof, none⟩) ∧ (0 < n → RA = some ⟨b, o, none⟩)) := ⟨h1, h2, h4⟩
  have HO : Hid (0 < n ∧ T 0 = 2 ∧ (X 0).length < 255) := ⟨hn0, hT0, hX0⟩
  clear h1 h2 h3 h4 h5 hn0 hT0 hX0
  go_enter Try.func4, Try.ntmps4
  go_wp2_with fail
  refine (bytes7_any w TA RA tl tc b o n c x A X C HA.out.2.2 HR.out).mono ?_
  rintro e w1 ⟨⟨bb, rfl, hs0⟩, rfl⟩
  cases bb with
  | false =>
    go_wp2
    go_ret
    exact ⟨rfl, Below.refl _ _⟩
  | true =>
    have hs := hs0 rfl
    clear hs0
    go_wp2_with fail
    refine (big_any _ TA RA tl tc b o n c A X C HA.out.2.2 HR.out hs).mono ?_
    rintro e w1 ⟨⟨bb, rfl, _⟩, rfl⟩
    cases bb with
    | true =>
      go_wp2
      go_ret
      exact ⟨rfl, Below.refl _ _⟩
    | false =>
      by_cases hl : tl = n
      · subst hl
        have hne : ((tl : Int) != (tl : Int)) = false := by simp
        have hfl : (flat X tl).length ≤ 1048576 := by omega
        have HB : Hid (tl + 1 ≤ 1048576 ∧ (flat X tl).length + 1 ≤ 1048576) := by
          refine ⟨by omega, ?_⟩
          rcases Nat.eq_zero_or_pos tl with h | h
          · subst h; simp [flat]
          · omega
        go_wp2_with fail
        refine (build_any _ TA RA tb tof tl tc b o c T A X C HA.out.1 HA.out.2.1 HA.out.2.2 HT.out HR.out (by omega) hfl).mono ?_
        rintro e w2 ⟨PA, pc, g, A1, C1, rfl, hpc, hP0, hPA, hp, hni, hb2⟩
        go_wp2_with fail
        have e0 := hPA HO.out.1
        obtain ⟨m, hm⟩ : ∃ m, tl = m + 1 := ⟨tl - 1, by have := HO.out.1; omega⟩
        subst hm
        subst e0
        refine (prepend_join _ g m pc x T A1 X C1 hp (by omega) hpc HO.out.2.1 HO.out.2.2).mono ?_
        rintro e w3 ⟨gq, cap, a0, c0, rfl, hcap, hq, hb3⟩
        have hb13 : Below w1.heap.size w1 w3 := hb2.trans (hb3.mono hb2.size)
        have HR3 : Hid (Rows32 w3 b o (m + 1) A X C) := HR.out.on hb13
        have HT3 : Hid (∀ i, i < m + 1 → w3.cell? ⟨tb, tof + i, none⟩ = some (.int .u8 (T i))) := fun i hi => cell_on hb13 (HT.out i hi)
        have HQ : Hid (PathAt w3 gq 0 (m + 1) (cons 2 fun i => T (i + 1)) (cons (some a0) fun i => A1 (i + 1)) (cons (x :: X 0) fun i => X (i + 1)) (cons c0 fun i => C1 (i + 1))) := hq
        have HN : Hid (∀ i, i < m + 1 → (A1 i = none ↔ A i = none)) := hni
        have t0 := HT3.out 0 (by omega)
        have r0 := (HR3.out 0 (by omega)).1
        simp only [Nat.add_zero] at t0 r0
        have e1 := HA.out.2.1 (by omega)
        have e2 := HA.out.2.2 (by omega)
        subst e1
        subst e2
        have hz : (((m + 1 : Nat) : Int) == 0) = false := by simp; omega
        have hz' : (0 : Int) < (m : Int) + 1 := by omega
        have h2' : (T 0 != 2) = false := by simp [HO.out.2.1]
        have hl5 : ¬ 255 ≤ ((X 0).length : Int) := by have := HO.out.2.2; omega
        have hl5' : decide (255 ≤ ((X 0).length : Int)) = false := by simpa using hl5
        clear hq hni hp hP0 hPA hpc hb2 hb3
        go_wp2_with fail
        go_loopw [11] (fun jj wr => ∃ k : Nat, k ≤ m + 1 ∧ jj = .int .i64 k ∧ ∃ d, wr = w3.drewN d) (fun jj _ => m + 1 - (intOf jj).toNat)
        case atStart => exact ⟨0, Nat.zero_le _, rfl, 0, rfl⟩
        case round =>
          obtain ⟨k, hk, rfl, d, rfl⟩ := hrel
          by_cases hlt : k < m + 1
          · cases k with
            | zero =>
              obtain ⟨q0, q1, _⟩ := HQ.out 0 (by omega)
              simp only [Nat.zero_mul, Nat.add_zero, Nat.zero_add, cons, List.length_cons] at q0 q1
              go_wp2
              go_roundw
              case rel => exact ⟨1, by omega, by go_num, d, rfl⟩
              case measure => simp [intOf]
            | succ k =>
              obtain ⟨q0, q1, _⟩ := HQ.out (k + 1) (by omega)
              obtain ⟨r0, _⟩ := HR3.out (k + 1) (by omega)
              have t0 := HT3.out (k + 1) (by omega)
              simp only [Nat.zero_add, cons] at q0 q1
              have hnil := HN.out (k + 1) (by omega)
              have hnl : (A1 (k + 1)).isNone = (A (k + 1)).isNone := by rw [Bool.eq_iff_iff]; simpa using hnil
              clear hnil
              have hnq := fun (w : World) (a : Option Addr) (n c : Nat) => Lib.run_eql_slice_nil (P := Try.prog) w 33 22 a n c 0 0 Try.underlying33
              go_wp2_with fail
              go_quiet (fail)
              go_wp2_with fail
              go_quiet (fail)
              go_wp2_with fail
              go_quiet (fail)
              go_wp2
              go_roundw
              case rel => exact ⟨k + 2, by omega, by go_num, _, rfl⟩
              case measure => simp [intOf]; omega
          · have hkn : k = m + 1 := by omega
            clear hkn
            have hb34 : ∀ ob, Below w3.heap.size w3 ((w3.drewN d).alloc ob) := fun ob => ((below_draws w3 d).alloc (Nat.le_refl _) ob)
            go_wp2_with fail
            refine (flatArgs_any _ (some ⟨b, o, none⟩) b o (m + 1) c A X C (fun _ => rfl) (HR3.out.on (hb34 _)) (by omega) hfl).mono ?_
            rintro e w5 ⟨v5, rfl, hv5, hb5⟩
            obtain ⟨A5, c5, rfl, hu5⟩ := u32_of_own hv5
            have HU5 : Hid (U32 w5 A5 (flat X (m + 1)) c5) := hu5
            have HO5 : Hid (w5.ownsRow w3.heap.size 22 1 (.slice (some ⟨w3.heap.size, 0, none⟩) 1 1) 1 [.int .u32 x]) := own_one ((hb5.block w3.heap.size (size_more w3 d _)).trans (blk_new (w3.drewN d) _)) (Nat.le_refl _)
            have hb35 : Below w3.heap.size w3 w5 := (hb34 _).trans (hb5.mono (Nat.le_of_lt (size_more w3 d _)))
            obtain ⟨j0, hj, hy0, hy1, hy2⟩ := info_parts info22
            have HS : Hid ((u32s (flat X (m + 1))).length = (flat X (m + 1)).length) := u32s_length _
            clear hv5 hu5 hb5
            go_wp2_with (at_builtin; refine wpList_append_any rfl (.tmp 125) (.tmp 127) 33 rfl w3.heap.size 22 j0 (.int .u32 0) 1 4 Try.underlying33 hj hy0 hy1 hy2 rfl (by decide) _ _ _ rfl HO5.out A5 (flat X (m + 1)).length c5 (u32s (flat X (m + 1))) rfl ?c0 ?c1 ?c2 ?c3 ?c4 ?c5 ?c6 ?_)
            case c0 => simpa using HS.out
            case c1 => intro h; have := HU5.out.1 h; exact ⟨by simp [this.1], this.2⟩
            case c2 => exact src_cells HU5.out
            case c3 => exact u32s_one _
            case c4 => unfold maxLen; omega
            case c5 => omega
            case c6 => exact hb35.size
            · intro v6 w6 hv6 hg6
              have hb36 : Below w3.heap.size w3 w6 := below_grown hb35 HO5.out (Nat.le_refl _) hg6
              obtain ⟨A6, c6, rfl, hu6⟩ := u32_of_own (xs := x :: flat X (m + 1)) (by simpa [u32s, Nat.add_comm] using hv6)
              have HU6 : Hid (U32 w6 A6 (x :: flat X (m + 1)) c6) := hu6
              clear hv6 hg6 hu6
              go_wp2_with fail
              have hfc := flat_join x X m
              refine (flat_any _ _ gq 0 (m + 1) cap _ _ _ _ (fun _ => rfl) (HQ.out.on hb36) (by have := HB.out.1; omega) (by rw [hfc]; have := HB.out.2; simpa using this)).mono ?_
              rintro e w7 ⟨v7, rfl, hv7, hb7⟩
              rw [hfc] at hv7
              obtain ⟨A7, c7, rfl, hu7⟩ := u32_of_own hv7
              have HU7 : Hid (U32 w7 A7 (x :: flat X (m + 1)) c7) := hu7
              clear hfc hv7 hu7
              go_wp2_with fail
              refine (same_any w7 A7 A6 (x :: flat X (m + 1)) c7 c6 HU7.out (HU6.out.on hb7) (by have := HB.out.2; simp; omega)).mono ?_
              rintro e w8 ⟨rfl, d8, rfl⟩
              go_wp2
              go_ret
              exact ⟨rfl, hb13.trans ((hb36.trans (hb7.mono hb36.size)).mono hb13.size) |>.trans (below_draws' _ _ _)⟩
      · have hne : ((tl : Int) != (n : Int)) = true := by simp; omega
        go_wp2
        go_ret
        exact ⟨rfl, Below.refl _ _⟩
theorem exact_any (w : World) (TA RA : Option Addr) (tb tof tl tc b o n c : Nat) (x : Int) (T : Nat → Int) (A : Nat → Option Addr) (X : Nat → List Int) (C : Nat → Nat) (hin : Came w TA RA tb tof tl tc b o n T A X C) :
    Calls Try.prog 4 #[.slice TA tl tc, .slice RA n c, .int .u32 x] w fun e w' => e = .returned (.bool true) ∧ Below w.heap.size w w' := by
  by_cases ho : n = 0 ∨ T 0 ≠ 2 ∨ 255 ≤ (X 0).length
  · exact exact_open w TA RA tb tof tl tc b o n c x T A X C hin ho
  · have h2 : T 0 = 2 := by
      rcases Int.lt_trichotomy (T 0) 2 with h | h | h
      · exact absurd (Or.inr (Or.inl (by omega))) ho
      · exact h
      · exact absurd (Or.inr (Or.inl (by omega))) ho
    exact exact_join w TA RA tb tof tl tc b o n c x T A X C hin (by omega) h2 (by omega)
end Go.Proofs.Qxb6604577a
