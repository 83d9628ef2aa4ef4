/-
  FnASPathPrependTwiceKeepsEverything: the walk.
-/
import Derived.Test.Qxb6604577aTwice0
namespace Go.Proofs.Qxb6604577a
open Go.RowKit
theorem info5 : (Try.prog.info? 5).map (fun i => (i.zero, i.size, i.bytes)) = some (some (.int .u8 0), 1, 1) := by kernel_rfl
theorem info3 : (Try.prog.info? 3).map (fun i => (i.zero, i.size, i.bytes)) = some (some (.int .i64 0), 1, 8) := by kernel_rfl
theorem ret_yes {p : Prop} [Decidable p] (h : p) : Ending.returned (.bool (decide p)) = .returned (.bool true) := by rw [decide_eq_true h]
theorem first_seg {w : World} {g m : Nat} {T : Nat → Int} {A : Nat → Option Addr} {X : Nat → List Int} {C : Nat → Nat} {x : Int} (hp : PathAt w g 0 m T A X C) (hm : 1 ≤ m) (ht : T 0 = 2) (hx : ∃ r, X 0 = x :: r) (hl : (X 0).length ≤ 255) :
    ∃ ab ao L c, w.cell? ⟨g, 0, none⟩ = some (.int .u8 2) ∧ w.cell? ⟨g, 1, none⟩ = some (.slice (some ⟨ab, ao, none⟩) L c) ∧ 1 ≤ L ∧ L ≤ 255 ∧ w.cell? ⟨ab, ao, none⟩ = some (.int .u32 x) := by
  obtain ⟨p0, p1, u⟩ := hp 0 (by omega)
  obtain ⟨r, hr⟩ := hx
  have hpos : 0 < (X 0).length := by rw [hr]; simp
  obtain ⟨ab, ao, ha, hc⟩ := u.form hpos
  have h0 := hc 0 hpos
  simp only [hr, List.getElem_cons_zero, Nat.add_zero] at h0
  simp only [Nat.zero_mul, Nat.add_zero, Nat.zero_add] at p0 p1
  rw [ht] at p0
  rw [ha] at p1
  exact ⟨ab, ao, _, _, p0, p1, hpos, hl, h0⟩
theorem same_b (w : World) (A1 A2 : Option Addr) (xs : List Int) (c1 c2 : Nat) (h1 : U32 w A1 xs c1) (h2 : U32 w A2 xs c2) (hm : xs.length ≤ 4194304) :
    Calls Try.prog 12 #[.slice A1 xs.length c1, .slice A2 xs.length c2] w fun e w' => e = .returned (.bool true) ∧ Below w.heap.size w w' := by
  refine (same_any w A1 A2 xs c1 c2 h1 h2 hm).mono ?_
  rintro e w' ⟨rfl, d, rfl⟩
  exact ⟨rfl, below_draws _ _⟩
theorem own_pair {w : World} {base g : Nat} {c0 c1 : Value} (h : w.heap[g]? = some (.cells #[c0, c1] 22 (0, 0))) (hb : base ≤ g) : w.ownsRow base 22 1 (.slice (some ⟨g, 0, none⟩) 2 2) 2 [c0, c1] :=
  ⟨rfl, .inr ⟨g, 2, _, rfl, hb, h, Nat.le_refl _, by decide, rfl, rfl⟩⟩
set_option maxRecDepth 20000 in
set_option maxHeartbeats 2000000 in
theorem twice_any (w : World) (TA RA : Option Addr) (tb tof tl tc b o n c : Nat) (x y : Int) (T : Nat → Int) (A : Nat → Option Addr) (X : Nat → List Int) (C : Nat → Nat) (hin : Came w TA RA tb tof tl tc b o n T A X C) :
    Calls Try.prog 5 #[.slice TA tl tc, .slice RA n c, .int .u32 x, .int .u32 y] w fun e w' => e = .returned (.bool true) ∧ Below w.heap.size w w' := by
  obtain ⟨h1, h2, h3, h4, h5⟩ := hin
  have HR : Hid (Rows32 w b o n A X C) := h5
  have HT : Hid (∀ i, i < tl → w.cell? ⟨tb, tof + i, none⟩ = some (.int .u8 (T i))) := h3
  have HA : Hid ((TA = none → tl = 0 ∧ tc = 0) ∧ (0 < tl → TA = some ⟨tb, tof, none⟩) ∧ (0 < n → RA = some ⟨b, o, none⟩)) := ⟨h1, h2, h4⟩
  clear h1 h2 h3 h4 h5
  go_enter Try.func5, Try.ntmps5
  go_wp2_with fail
  refine (bytes14_any w TA RA tl tc b o n c x y A X C HA.out.2.2 HR.out).mono ?_
  rintro e w1 ⟨⟨bb, rfl, hs0⟩, rfl⟩
  cases bb with
  | false =>
    go_wp2
    go_ret
    exact ⟨rfl, Below.refl _ _⟩
  | true =>
  have hs := hs0 rfl
  clear hs0
  go_wp2_with fail
  refine (big_any _ TA RA tl tc b o n c A X C HA.out.2.2 HR.out hs).mono ?_
  rintro e w1 ⟨⟨bb, rfl, _⟩, rfl⟩
  cases bb with
  | true =>
    go_wp2
    go_ret
    exact ⟨rfl, Below.refl _ _⟩
  | false =>
  by_cases hl : tl = n
  case neg =>
    have hne : ((tl : Int) != (n : Int)) = true := by simp; omega
    go_wp2
    go_ret
    exact ⟨rfl, Below.refl _ _⟩
  subst hl
  have hne : ((tl : Int) != (tl : Int)) = false := by simp
  have hfl : (flat X tl).length ≤ 1048576 := by omega
  have HB : Hid (tl + 2 ≤ 1048576 ∧ (flat X tl).length + 2 ≤ 1048576) := by
    refine ⟨by omega, ?_⟩
    rcases Nat.eq_zero_or_pos tl with h | h
    · subst h; simp [flat]
    · omega
  clear hs
  go_wp2_with fail
  refine (build_any _ TA RA tb tof tl tc b o c T A X C HA.out.1 HA.out.2.1 HA.out.2.2 HT.out HR.out (by have := HB.out; omega) hfl).mono ?_
  rintro e w2 ⟨PA, pc, g, A1, C1, rfl, hpc, hP0, hPA, hp, hni, hb2⟩
  have HP : Hid (PathAt w2 g 0 tl T A1 X C1) := hp
  have HPH : Hid ((PA = none → tl = 0 ∧ pc = 0) ∧ (0 < tl → PA = some ⟨g, 0, none⟩) ∧ tl ≤ pc) := ⟨hP0, hPA, hpc⟩
  have HN : Hid (∀ i, i < tl → (A1 i = none ↔ A i = none)) := hni
  clear hp hP0 hPA hpc hni
  go_wp2_with fail
  refine (prepend_any _ PA g tl pc x T A1 X C1 HPH.out.1 HPH.out.2.1 HPH.out.2.2 HP.out (by have := HB.out; omega)).mono ?_
  rintro e w3 ⟨g1, m1, cap1, T1, B1, X1, D1, rfl, hm1, hm1a, hm1b, hm1c, hq1, ht1, hx1, hl1, hf1, hb3⟩
  have HQ1 : Hid (PathAt w3 g1 0 m1 T1 B1 X1 D1) := hq1
  have HF1 : Hid (T1 0 = 2 ∧ (∃ r, X1 0 = x :: r) ∧ (X1 0).length ≤ 255 ∧ flat X1 m1 = x :: flat X tl) := ⟨ht1, hx1, hl1, hf1⟩
  have hb13 : Below w1.heap.size w1 w3 := hb2.trans (hb3.mono hb2.size)
  have HR3 : Hid (Rows32 w3 b o tl A X C) := HR.out.on hb13
  have HT3 : Hid (∀ i, i < tl → w3.cell? ⟨tb, tof + i, none⟩ = some (.int .u8 (T i))) := fun i hi => cell_on hb13 (HT.out i hi)
  have HP3 : Hid (PathAt w3 g 0 tl T A1 X C1) := HP.out.on hb3
  have hz1 : ((m1 : Int) == 0) = false := by simp; omega
  have hm1d : m1 ≤ 1048576 := by have := HB.out; omega
  clear hq1 ht1 hx1 hl1 hf1 hb2 hb3 HR HT HP
  go_wp2_with fail
  refine (flat_any _ _ g1 0 m1 cap1 _ _ _ _ (fun _ => rfl) HQ1.out (by have := HB.out; omega) (by have := HB.out; rw [HF1.out.2.2.2]; simp; omega)).mono ?_
  rintro e w4 ⟨v4, rfl, hv4, hb4⟩
  rw [HF1.out.2.2.2] at hv4
  obtain ⟨A4, c4, rfl, hu4⟩ := u32_of_own hv4
  have HU4 : Hid (U32 w4 A4 (x :: flat X tl) c4) := hu4
  clear hv4 hu4
  have hmk5 := run_make_row' (P := Try.prog) 25 5 (.int .u8 0) 1 Try.underlying25 info5 rfl .i64 .i64 m1 (by have := HB.out; omega) (by have := HB.out; omega)
  have hmk3 := run_make_row' (P := Try.prog) 41 3 (.int .i64 0) 8 Try.underlying41 info3 rfl .i64 .i64 m1 (by have := HB.out; omega) (by have := HB.out; omega)
  have HQ4 : Hid (PathAt w4 g1 0 m1 T1 B1 X1 D1) := HQ1.out.on hb4
  go_wp2_with fail
  go_loopw [14] (fun jj wr => ∃ k : Nat, k ≤ m1 ∧ jj = .int .i64 k ∧ Noted w4 m1 T1 X1 k wr) (fun jj _ => m1 - (intOf jj).toNat)
  case atStart => exact ⟨0, Nat.zero_le _, rfl, noted_zero _ _ _ _⟩
  case round =>
    obtain ⟨k, hk, rfl, hno⟩ := hrel
    by_cases hlt : k < m1
    · have HNo : Hid (Noted w4 m1 T1 X1 k wr) := hno
      obtain ⟨⟨y1, z1⟩, ⟨y2, z2⟩, z3, z4⟩ := noted_cells hno hlt
      obtain ⟨ct, cl, hbn, _⟩ := hno
      obtain ⟨q0, q1, _⟩ := HQ4.out.on hbn k hlt
      simp only [Nat.zero_add] at q0 q1
      clear hbn
      go_wp2
      go_roundw
      case rel => exact ⟨k + 1, by omega, by go_num, noted_step hlt HNo.out⟩
      case measure => simp [intOf]; omega
    · have hkn : m1 = k := by omega
      subst hkn
      have HNo : Hid (Noted w4 m1 T1 X1 m1 wr) := hno
      obtain ⟨ct, cl, hbn, _⟩ := hno
      go_wp2_with fail
      refine (prepend_any _ _ g1 m1 cap1 y T1 B1 X1 D1 (fun e => by cases e) (fun _ => rfl) hm1c (HQ4.out.on hbn) (by omega)).mono ?_
      rintro e w6 ⟨g2, m2, cap2, T2, B2, X2, D2, rfl, hm2, hm2a, hm2b, hm2c, hq2, ht2, hx2, hl2, hf2, hb6⟩
      have hb46 : Below w4.heap.size w4 w6 := hbn.trans (hb6.mono hbn.size)
      have hb36 : Below w3.heap.size w3 w6 := hb4.trans (hb46.mono hb4.size)
      have HQ6 : Hid (PathAt w6 g1 0 m1 T1 B1 X1 D1) := HQ4.out.on hb46
      have HQ2 : Hid (PathAt w6 g2 0 m2 T2 B2 X2 D2) := hq2
      have HF2 : Hid (T2 0 = 2 ∧ (∃ r, X2 0 = y :: r) ∧ (X2 0).length ≤ 255 ∧ flat X2 m2 = y :: x :: flat X tl) := ⟨ht2, hx2, hl2, by rw [hf2, HF1.out.2.2.2]⟩
      have HR6 : Hid (Rows32 w6 b o tl A X C) := HR3.out.on hb36
      have HT6 : Hid (∀ i, i < tl → w6.cell? ⟨tb, tof + i, none⟩ = some (.int .u8 (T i))) := fun i hi => cell_on hb36 (HT3.out i hi)
      have HP6 : Hid (PathAt w6 g 0 tl T A1 X C1) := HP3.out.on hb36
      have HU6 : Hid (U32 w6 A4 (x :: flat X tl) c4) := HU4.out.on hb46
      have HN6 : Hid (∀ j, j < m1 → w6.cell? ⟨w4.heap.size, j, none⟩ = some (.int .u8 (T1 j)) ∧ w6.cell? ⟨w4.heap.size + 1, j, none⟩ = some (.int .i64 (X1 j).length)) := fun j hj => ⟨cell_on hb6 (noted_read HNo.out hj).1, cell_on hb6 (noted_read HNo.out hj).2⟩
      have hz2 : ((m2 : Int) == 0) = false := by simp; omega
      have hm2d : m2 ≤ 1048576 := by have := HB.out; omega
      clear hq2 ht2 hx2 hl2 hf2 hb6 hbn HNo HQ4 HU4 HQ1 HR3 HT3 HP3 hmk5 hmk3 hb4
      go_wp2_with fail
      go_loopw [16] (fun jj wr => ∃ k : Nat, k ≤ tl ∧ jj = .int .i64 k ∧ Below w6.heap.size w6 wr) (fun jj _ => tl - (intOf jj).toNat)
      case atStart => exact ⟨0, Nat.zero_le _, rfl, Below.refl _ _⟩
      case round =>
        obtain ⟨k, hk, rfl, hbr⟩ := hrel
        by_cases hlt : k < tl
        · have e1 := HA.out.2.1 (by omega)
          have e2 := HA.out.2.2 (by omega)
          have e3 := HPH.out.2.1 (by omega)
          subst e1
          subst e2
          subst e3
          obtain ⟨q0, q1, qu⟩ := HP6.out.on hbr k (by omega)
          obtain ⟨r0, ru⟩ := HR6.out.on hbr k (by omega)
          have t0 := cell_on hbr (HT6.out k (by omega))
          simp only [Nat.zero_add] at q0 q1
          have hnil := HN.out k (by omega)
          have hnl : (A1 k).isNone = (A k).isNone := by rw [Bool.eq_iff_iff]; simpa using hnil
          have hlen : (X k).length ≤ 4194304 := by
            have hfk := flat_mono X (show k + 1 ≤ tl by omega)
            have hfs := congrArg List.length (flat_succ X k)
            rw [List.length_append] at hfs
            omega
          have HS : Hid (∀ dd, Calls Try.prog 12 #[.slice (A1 k) (X k).length (C1 k), .slice (A k) (X k).length (C k)] (wr.drewN dd) fun e w' => e = .returned (.bool true) ∧ ∃ d, w' = (wr.drewN dd).drewN d) := fun dd =>
            same_any _ (A1 k) (A k) (X k) (C1 k) (C k) (qu.on (below_draws wr dd)) (ru.on (below_draws wr dd)) hlen
          clear hnil qu ru
          have hnq := fun (w : World) (a : Option Addr) (n c : Nat) => Lib.run_eql_slice_nil (P := Try.prog) w 33 22 a n c 0 0 Try.underlying33
          have htt : (T k != T k) = false := by simp
          go_wp2_with fail
          go_quiet ((go_at_call 12; exact Calls.quiet_of (HS.out _)))
          go_wp2
          go_roundw
          case rel => exact ⟨k + 1, by omega, by go_num, hbr.trans (below_draws' _ _ _)⟩
          case measure => simp [intOf]; omega
        · have HQ7 : Hid (PathAt wr g1 0 m1 T1 B1 X1 D1) := HQ6.out.on hbr
          have HN7 : Hid (∀ j, j < m1 → wr.cell? ⟨w4.heap.size, j, none⟩ = some (.int .u8 (T1 j)) ∧ wr.cell? ⟨w4.heap.size + 1, j, none⟩ = some (.int .i64 (X1 j).length)) := fun j hj => ⟨cell_on hbr (HN6.out j hj).1, cell_on hbr (HN6.out j hj).2⟩
          have HR7 : Hid (Rows32 wr b o tl A X C) := HR6.out.on hbr
          have HG7 : Hid (PathAt wr g2 0 m2 T2 B2 X2 D2) := HQ2.out.on hbr
          have HU7 : Hid (U32 wr A4 (x :: flat X tl) c4) := HU6.out.on hbr
          have hb17 : Below w1.heap.size w1 wr := hb13.trans ((hb36.trans (hbr.mono hb36.size)).mono hb13.size)
          clear HQ6 HN6 HR6 HQ2 HU6 HP6 HT6
          go_wp2_with fail
          go_loopw [17] (fun jj ws => ∃ k : Nat, k ≤ m1 ∧ jj = .int .i64 k ∧ Below wr.heap.size wr ws) (fun jj _ => m1 - (intOf jj).toNat)
          case atStart => exact ⟨0, Nat.zero_le _, rfl, Below.refl _ _⟩
          case round =>
            obtain ⟨k3, hk3, rfl, hbs⟩ := hrel
            rename_i ws
            by_cases hlt3 : k3 < m1
            · obtain ⟨q0, q1, _⟩ := HQ7.out.on hbs k3 hlt3
              have n0 := cell_on hbs (HN7.out k3 hlt3).1
              have n1 := cell_on hbs (HN7.out k3 hlt3).2
              simp only [Nat.zero_add] at q0 q1
              have htt : (T1 k3 != T1 k3) = false := by simp
              go_wp2_with fail
              go_quiet (fail)
              go_wp2
              go_roundw
              case rel => exact ⟨k3 + 1, by omega, by go_num, hbs.trans (below_draws' _ _ _)⟩
              case measure => simp [intOf]; omega
            · go_wp2_with fail
              refine (flat_any _ _ g1 0 m1 cap1 _ _ _ _ (fun _ => rfl) (HQ7.out.on hbs) hm1d (by have := HB.out; rw [HF1.out.2.2.2]; simp; omega)).mono ?_
              rintro e w8 ⟨v8, rfl, hv8, hb8⟩
              rw [HF1.out.2.2.2] at hv8
              obtain ⟨A8, c8, rfl, hu8⟩ := u32_of_own hv8
              have HU8 : Hid (U32 w8 A8 (x :: flat X tl) c8) := hu8
              have hbs8 := hbs.trans (hb8.mono hbs.size)
              clear hv8 hu8 hbs hb8
              go_wp2_with fail
              refine (same_b w8 A8 A4 (x :: flat X tl) c8 c4 HU8.out (HU7.out.on hbs8) (by have := HB.out; simp; omega)).mono ?_
              rintro e w9 ⟨rfl, hb9⟩
              have hbs9 := hbs8.trans (hb9.mono hbs8.size)
              have hb19 := hb17.trans (hbs9.mono hb17.size)
              obtain ⟨ab, ao, L1, k1, s1, s2, s3, s4, s5⟩ := first_seg (HQ7.out.on hbs9) hm1 HF1.out.1 HF1.out.2.1 HF1.out.2.2.1
              obtain ⟨bb, bo, L2, k2, s6, s7, s8, s9, s10⟩ := first_seg (HG7.out.on hbs9) hm2 HF2.out.1 HF2.out.2.1 HF2.out.2.2.1
              have HR9 : Hid (Rows32 w9 b o tl A X C) := HR7.out.on hbs9
              have HG9 : Hid (PathAt w9 g2 0 m2 T2 B2 X2 D2) := HG7.out.on hbs9
              clear hbs8 hb9 HU8 HU7 HQ7 HG7 HN7 HR7
              have hxx : (x != x) = false := by simp
              have hyy : (y != y) = false := by simp
              have hb910 : ∀ ob, Below w9.heap.size w9 (w9.alloc ob) := fun ob => (Below.refl _ _).alloc (Nat.le_refl _) ob
              go_wp2_with fail
              refine (flatArgs_any _ RA b o tl c A X C HA.out.2.2 (HR9.out.on (hb910 _)) (by have := HB.out; omega) hfl).mono ?_
              rintro e w10 ⟨v10, rfl, hv10, hb10⟩
              obtain ⟨A10, c10, rfl, hu10⟩ := u32_of_own hv10
              have HU10 : Hid (U32 w10 A10 (flat X tl) c10) := hu10
              have HO10 : Hid (w10.ownsRow w9.heap.size 22 1 (.slice (some ⟨w9.heap.size, 0, none⟩) 2 2) 2 [.int .u32 y, .int .u32 x]) := own_pair ((hb10.block w9.heap.size (by simp)).trans (blk_new w9 _)) (Nat.le_refl _)
              have hb9x : Below w9.heap.size w9 w10 := (hb910 _).trans (hb10.mono (by simp))
              obtain ⟨j0, hj, hy0, hy1, hy2⟩ := info_parts info22
              have HS : Hid ((u32s (flat X tl)).length = (flat X tl).length) := u32s_length _
              clear hv10 hu10 hb10
              go_wp2_with (at_builtin; refine wpList_append_any rfl (.tmp 228) (.tmp 230) 33 rfl w9.heap.size 22 j0 (.int .u32 0) 1 4 Try.underlying33 hj hy0 hy1 hy2 rfl (by decide) _ _ _ rfl HO10.out A10 (flat X tl).length c10 (u32s (flat X tl)) rfl ?c0 ?c1 ?c2 ?c3 ?c4 ?c5 ?c6 ?_)
              case c0 => simpa using HS.out
              case c1 => intro h; have := HU10.out.1 h; exact ⟨by simp [this.1], this.2⟩
              case c2 => exact src_cells HU10.out
              case c3 => exact u32s_one _
              case c4 => unfold maxLen; omega
              case c5 => omega
              case c6 => exact hb9x.size
              · intro v11 w11 hv11 hg11
                have hb911 : Below w9.heap.size w9 w11 := below_grown hb9x HO10.out (Nat.le_refl _) hg11
                obtain ⟨A11, c11, rfl, hu11⟩ := u32_of_own (xs := y :: x :: flat X tl) (by rw [show (y :: x :: flat X tl).length = 2 + (flat X tl).length by simp; omega]; exact hv11)
                have HU11 : Hid (U32 w11 A11 (y :: x :: flat X tl) c11) := hu11
                clear hv11 hg11 hu11
                go_wp2_with fail
                refine (flat_any _ _ g2 0 m2 cap2 _ _ _ _ (fun _ => rfl) (HG9.out.on hb911) hm2d (by have := HB.out; rw [HF2.out.2.2.2]; simp; omega)).mono ?_
                rintro e w12 ⟨v12, rfl, hv12, hb12⟩
                rw [HF2.out.2.2.2] at hv12
                obtain ⟨A12, c12, rfl, hu12⟩ := u32_of_own hv12
                have HU12 : Hid (U32 w12 A12 (y :: x :: flat X tl) c12) := hu12
                clear hv12 hu12
                go_wp2_with fail
                refine (same_b w12 A12 A11 (y :: x :: flat X tl) c12 c11 HU12.out (HU11.out.on hb12) (by have := HB.out; simp; omega)).mono ?_
                rintro e w13 ⟨rfl, hb13'⟩
                have hfin : Below w1.heap.size w1 w13 := hb19.trans (((hb911.trans (hb12.mono hb911.size)).trans (hb13'.mono (Nat.le_trans hb911.size hb12.size))).mono hb19.size)
                clear hb911 hb12 hb13' hb9x hb19
                go_wp2
                go_ret
                exact ⟨ret_yes (by omega), hfin⟩
end Go.Proofs.Qxb6604577a
