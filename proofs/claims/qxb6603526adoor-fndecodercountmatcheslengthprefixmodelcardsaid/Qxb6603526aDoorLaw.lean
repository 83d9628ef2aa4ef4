/-
  FnDecoderCountMatchesLengthPrefixModel: the walk, by how the bytes open.
-/
import Derived.Test.Qxb6603526aDoorDec
namespace Go.Proofs.Qxb6603526aDoor
open Go.RowKit
theorem or_step (X c : Nat) (hX : X * 128 + c % 128 < 18446744073709551616) (hc : c < 256) :
    bits BinOp.or IntKind.u64 (IntKind.u64.wrap ((X : Int) * 128)) (IntKind.u64.wrap (bits BinOp.and IntKind.u8 (c : Int) 127)) = ((X * 128 + c % 128 : Nat) : Int) := by
  have hw : ∀ x : Int, IntKind.u64.wrap x = x % 18446744073709551616 := fun x => by simp [IntKind.wrap, IntKind.bits, IntKind.signed]
  have e1 : bits BinOp.and IntKind.u8 (c : Int) 127 = ((c &&& 127 : Nat) : Int) := u8_and_nat c 127 hc (by decide)
  have e2 : c &&& 127 = c % 128 := Nat.and_two_pow_sub_one_eq_mod c 7
  rw [e1, e2, hw, hw]
  have e3 : (X : Int) * 128 % 18446744073709551616 = ((X * 128 : Nat) : Int) := by omega
  have e4 : ((c % 128 : Nat) : Int) % 18446744073709551616 = ((c % 128 : Nat) : Int) := by omega
  rw [e3, e4, u64_or_nat _ _ (by omega) (by omega)]
  have e5 := Nat.two_pow_add_eq_or_of_lt (i := 7) (b := c % 128) (Nat.mod_lt _ (by decide)) X
  rw [Nat.mul_comm X 128]
  exact_mod_cast e5.symm
theorem same_drop (w : World) (b o : Nat) (l : List UInt8) (c kn : Nat) (h : U8 w (some ⟨b, o, none⟩) l c) (hl : l.length ≤ 1048576) (hk : kn ≤ l.length) (R : Option Addr) (cc : Nat) (hR : (c = kn ∧ R = some ⟨b, o, none⟩ ∧ cc = 0) ∨ (R = some ⟨b, o + kn, none⟩ ∧ cc = c - kn)) :
    Calls Tryd.prog 10 #[.slice R (l.length - kn) cc, .slice R (l.length - kn) cc] w fun e w' => e = .returned (.bool true) ∧ ∃ d, w' = w.drewN d := by
  have hd : (l.drop kn).length = l.length - kn := List.length_drop
  rw [← hd]
  refine same_self w R (l.drop kn) cc ?_ (by rw [hd]; omega)
  have hc := h.2.1
  rcases hR with ⟨rfl, rfl, rfl⟩ | ⟨rfl, rfl⟩
  · refine ⟨(fun e => by cases e), by rw [hd]; omega, fun ad ha j hj => ?_⟩
    rw [hd] at hj
    omega
  · refine ⟨(fun e => by cases e), by rw [hd]; omega, fun ad ha j hj => ?_⟩
    cases ha
    rw [hd] at hj
    have h1 := h.2.2 _ rfl (kn + j) (by omega)
    rw [add_at] at h1 ⊢
    rw [Nat.add_assoc, h1]
    have e : at8 (l.drop kn) j = at8 l (kn + j) := by simp [at8, List.getD, List.getElem?_drop]
    rw [e]
theorem horner_step (l : List UInt8) (k t : Nat) (ht : t + 1 ≤ k) : horner l k (k - t) = horner l k (k - (t + 1)) * 128 + at8 l t % 128 := by
  have e : k - t = (k - (t + 1)) + 1 := by omega
  rw [e, horner]
  have e2 : k - (k - (t + 1) + 1) = t := by omega
  rw [e2]
theorem law_big (w : World) (A : Option Addr) (n c : Nat) (hn : 1048576 < (n : Int)) :
    Calls Tryd.prog 4 #[.slice A n c] w fun e w' => e = .returned (.bool true) ∧ Below w.heap.size w w' := by
  go_enter Tryd.func4, Tryd.ntmps4
  go_wp2_with (go_at_call 11; refine (bytes_big _ _ _ _ hn).mono ?_; rintro e w' ⟨rfl, rfl⟩)
  go_ret
  exact ⟨rfl, Below.refl _ _⟩
set_option maxRecDepth 20000 in
set_option maxHeartbeats 800000 in
theorem law_none (w : World) (A : Option Addr) (l : List UInt8) (c : Nat) (h : U8 w A l c) (hl : (l.length : Int) ≤ 1048576) (tp : TypeId) (pv : Value) (hev : w.cell? ⟨0, 0, none⟩ = some (.iface tp pv)) (hno : ∀ t, t < 10 → t < l.length → 128 ≤ at8 l t) :
    Calls Tryd.prog 4 #[.slice A l.length c] w fun e w' => e = .returned (.bool true) ∧ Below w.heap.size w w' := by
  have hnil := fun (w : World) (a : Option Addr) (n c : Nat) => Lib.run_eql_slice_nil (P := Tryd.prog) w 22 5 a n c 0 0 Tryd.underlying22
  have HN : Hid (∀ t, t < 10 → t < l.length → 128 ≤ at8 l t) := hno
  have HU0 : Hid (U8 w A l c) := h
  clear h hno
  go_enter Tryd.func4, Tryd.ntmps4
  go_wp2_with fail
  refine (bytes_small _ _ _ _ hl).mono ?_
  rintro e w0 ⟨rfl, rfl⟩
  go_wp2_with fail
  refine (clone_any _ A l c HU0.out (by omega)).mono ?_
  rintro e w1 ⟨A1, c1, rfl, hu1, hb1⟩
  have HU1 : Hid (U8 w1 A1 l c1) := hu1
  have hev1 := cell_on hb1 hev
  clear hu1 hev HU0
  go_wp2_with fail
  refine (dec_bad1 _ A1 l c1 HU1.out _ _ rfl rfl (dec_none l HN.out) tp pv hev1).mono ?_
  rintro e w2 ⟨rfl, hb2⟩
  have HU2 : Hid (U8 w2 A1 l c1) := HU1.out.on hb2
  have hb12 := hb1.trans (hb2.mono hb1.size)
  clear hb1 hb2 hev1 HU1
  go_wp2_with fail
  go_loop [6, 7] (fun kk i => ∃ j : Nat, j ≤ l.length ∧ j ≤ 10 ∧ kk = .int .i64 (-1) ∧ i = .int .i64 j) (fun _ i => l.length - (intOf i).toNat)
  case atStart => exact ⟨0, Nat.zero_le _, by omega, rfl, rfl⟩
  case round =>
    obtain ⟨j, hj, hj10, rfl, rfl⟩ := hrel
    by_cases hlt : j < l.length
    · by_cases h10 : j < 10
      · obtain ⟨b1, o1, e1, k1⟩ := HU2.out.form (by omega)
        subst e1
        have q := k1 j hlt
        have hb := HN.out j h10 hlt
        have hb' : ¬ ((at8 l j : Int) < 128) := by omega
        clear k1 hb
        go_wp2
        go_round
        case rel => exact ⟨j + 1, by omega, by omega, rfl, by go_num⟩
        case measure => simp [intOf]; omega
      · go_wp2
        go_ret
        exact ⟨rfl, hb12⟩
    · go_wp2
      go_ret
      exact ⟨rfl, hb12⟩
set_option maxRecDepth 20000 in
set_option maxHeartbeats 800000 in
theorem law_over (w : World) (A : Option Addr) (l : List UInt8) (c : Nat) (h : U8 w A l c) (hl : (l.length : Int) ≤ 1048576) (tp : TypeId) (pv : Value) (hev : w.cell? ⟨0, 0, none⟩ = some (.iface tp pv)) (hf : FirstAt l 9) (hov : 1 < at8 l 9) :
    Calls Tryd.prog 4 #[.slice A l.length c] w fun e w' => e = .returned (.bool true) ∧ Below w.heap.size w w' := by
  have hnil := fun (w : World) (a : Option Addr) (n c : Nat) => Lib.run_eql_slice_nil (P := Tryd.prog) w 22 5 a n c 0 0 Tryd.underlying22
  have HN : Hid (FirstAt l 9 ∧ 1 < at8 l 9) := ⟨hf, hov⟩
  have HU0 : Hid (U8 w A l c) := h
  clear h hf hov
  go_enter Tryd.func4, Tryd.ntmps4
  go_wp2_with fail
  refine (bytes_small _ _ _ _ hl).mono ?_
  rintro e w0 ⟨rfl, rfl⟩
  go_wp2_with fail
  refine (clone_any _ A l c HU0.out (by omega)).mono ?_
  rintro e w1 ⟨A1, c1, rfl, hu1, hb1⟩
  have HU1 : Hid (U8 w1 A1 l c1) := hu1
  have hev1 := cell_on hb1 hev
  clear hu1 hev HU0
  go_wp2_with fail
  refine (dec_bad1 _ A1 l c1 HU1.out _ _ rfl rfl (dec_over l HN.out.1 HN.out.2) tp pv hev1).mono ?_
  rintro e w2 ⟨rfl, hb2⟩
  have HU2 : Hid (U8 w2 A1 l c1) := HU1.out.on hb2
  have hb12 := hb1.trans (hb2.mono hb1.size)
  clear hb1 hb2 hev1 HU1
  go_wp2_with fail
  obtain ⟨b1, o1, e1, k1⟩ := HU2.out.form (by have := HN.out.1.1; omega)
  subst e1
  have K1 : Hid (∀ j, j < l.length → w2.cell? ⟨b1, o1 + j, none⟩ = some (.int .u8 (at8 l j))) := k1
  clear k1
  have hlen : 9 < l.length := HN.out.1.1
  go_loop [6, 7] (fun kk i => ∃ j : Nat, j ≤ 9 ∧ kk = .int .i64 (-1) ∧ i = .int .i64 j) (fun _ i => 10 - (intOf i).toNat)
  case atStart => exact ⟨0, Nat.zero_le _, rfl, rfl⟩
  case round =>
    obtain ⟨j, hj, rfl, rfl⟩ := hrel
    have q := K1.out j (by omega)
    by_cases h9 : j < 9
    · have hb := HN.out.1.2.2 j h9
      have hb' : ¬ ((at8 l j : Int) < 128) := by omega
      clear hb
      go_wp2
      go_round
      case rel => exact ⟨j + 1, by omega, rfl, by go_num⟩
      case measure => simp [intOf]; omega
    · have e9 : j = 9 := by omega
      subst e9
      have hb := HN.out.1.2.1
      have hb' : ((at8 l 9 : Int) < 128) := by omega
      have ho := HN.out.2
      have ho' : (1 : Int) < (at8 l 9 : Int) := by omega
      clear hb ho
      go_wp2
      go_ret
      exact ⟨rfl, hb12⟩
set_option maxRecDepth 20000 in
set_option maxHeartbeats 800000 in
theorem law_good (w : World) (A : Option Addr) (l : List UInt8) (c : Nat) (h : U8 w A l c) (hl : (l.length : Int) ≤ 1048576) (K : Nat) (hK : K ≤ 9) (hf : FirstAt l K) (hov : ¬ (K = 9 ∧ 1 < at8 l K)) (hgood : horner l K K ≤ l.length - (K + 1)) :
    Calls Tryd.prog 4 #[.slice A l.length c] w fun e w' => e = .returned (.bool true) ∧ Below w.heap.size w w' := by
  have hnil := fun (w : World) (a : Option Addr) (n c : Nat) => Lib.run_eql_slice_nil (P := Tryd.prog) w 22 5 a n c 0 0 Tryd.underlying22
  have HN : Hid (FirstAt l K ∧ ¬ (K = 9 ∧ 1 < at8 l K) ∧ horner l K K ≤ l.length - (K + 1)) := ⟨hf, hov, hgood⟩
  have HU0 : Hid (U8 w A l c) := h
  clear h hf hov hgood
  go_enter Tryd.func4, Tryd.ntmps4
  go_wp2_with fail
  refine (bytes_small _ _ _ _ hl).mono ?_
  rintro e w0 ⟨rfl, rfl⟩
  go_wp2_with fail
  refine (clone_any _ A l c HU0.out (by omega)).mono ?_
  rintro e w1 ⟨A1, c1, rfl, hu1, hb1⟩
  have HU1 : Hid (U8 w1 A1 l c1) := hu1
  clear hu1 HU0
  go_wp2_with fail
  obtain ⟨b1, o1, e1, k1⟩ := HU1.out.form (by have := HN.out.1.1; omega)
  subst e1
  have HD := dec_first l K HN.out.1 hK HN.out.2.1
  have hlen : K + 1 ≤ l.length := HN.out.1.1
  have HDc := dec_good _ b1 o1 l c1 (K + 1) HU1.out (horner l K K : Int) (by rw [HD]) (by rw [HD]; simp) (by omega) hlen (by omega) (by have := HN.out.2.2; omega) (by have := HN.out.2.2; omega)
  obtain ⟨R, hR⟩ : ∃ R : Option Addr, R = (if c1 = K + 1 then some ⟨b1, o1, none⟩ else some ⟨b1, o1 + (K + 1), none⟩) := ⟨_, rfl⟩
  rw [← hR] at HDc
  have HRR : Hid (R = (if c1 = K + 1 then some ⟨b1, o1, none⟩ else some ⟨b1, o1 + (K + 1), none⟩)) := hR
  obtain ⟨x0, hx0⟩ : ∃ x0 : Int, x0 = (horner l K K : Int) := ⟨_, rfl⟩
  rw [← hx0] at HDc
  have HX0 : Hid (x0 = (horner l K K : Int)) := hx0
  clear hR hx0
  refine HDc.mono ?_
  clear HDc
  rintro e w2 ⟨rfl, hb2⟩
  have HU2 : Hid (U8 w2 (some ⟨b1, o1, none⟩) l c1) := HU1.out.on hb2
  have hb2' := hb2
  have hb12 := hb1.trans (hb2.mono hb1.size)
  clear hb1 hb2 HU1 HD
  go_wp2_with fail
  have K1 : Hid (∀ j, j < l.length → w2.cell? ⟨b1, o1 + j, none⟩ = some (.int .u8 (at8 l j))) := fun j hj => cell_on hb2' (k1 j hj)
  clear k1
  go_loop [6, 7] (fun kk i => ∃ j : Nat, j ≤ K ∧ kk = .int .i64 (-1) ∧ i = .int .i64 j) (fun _ i => 10 - (intOf i).toNat)
  case atStart => exact ⟨0, Nat.zero_le _, rfl, rfl⟩
  case round =>
    obtain ⟨j, hj, rfl, rfl⟩ := hrel
    have q := K1.out j (by omega)
    by_cases h9 : j < K
    · have hb := HN.out.1.2.2 j h9
      have hb' : ¬ ((at8 l j : Int) < 128) := by omega
      clear hb
      go_wp2
      go_round
      case rel => exact ⟨j + 1, by omega, rfl, by go_num⟩
      case measure => simp [intOf]; omega
    · have e9 : j = K := by omega
      subst e9
      have hb := HN.out.1.2.1
      have hb' : ((at8 l j : Int) < 128) := by omega
      clear hb
      have h9 : ((j : Int) == 9) = false ∨ (((j : Int) == 9) = true ∧ w2.cell? ⟨b1, o1 + 9, none⟩ = some (.int .u8 (at8 l 9)) ∧ ¬ (1 : Int) < (at8 l 9 : Int) ∧ (9 : Int) < l.length) := by
        by_cases e : j = 9
        · right
          subst e
          exact ⟨rfl, q, by have := HN.out.2.1; omega, by omega⟩
        · left; simp; omega
      rcases h9 with h9 | ⟨h9, q9, hb9, hl9⟩
      all_goals
        go_wp2_with fail
        go_loop [9, 10] (fun x i => ∃ t : Nat, t ≤ j ∧ i = .int .i64 ((t : Int) - 1) ∧ ∃ X : Int, x = .int .u64 X ∧ Hid (X = (horner l j (j - t) : Int))) (fun _ i => (intOf i + 1).toNat)
        case atStart => exact ⟨j, Nat.le_refl _, rfl, _, rfl, by rw [Nat.sub_self]; rfl⟩
        case round =>
          obtain ⟨t, ht, rfl, X, rfl, HX⟩ := hrel
          cases t with
          | zero =>
            have hXe : X = x0 := by rw [HX.out, HX0.out, Nat.sub_zero]
            subst hXe
            have hx1 : X ≤ 9223372036854775807 := by have := HX0.out; have := HN.out.2.2; omega
            have hx2 : X ≤ (l.length : Int) - (j : Int) - 1 := by have := HX0.out; have := HN.out.2.2; omega
            have hx3 : 0 ≤ X := by have := HX0.out; omega
            go_wp2_with fail
            · have hcc : c1 = j + 1 := by assumption
              have hR := HRR.out
              rw [if_pos hcc] at hR
              subst hR
              refine (same_drop w2 b1 o1 l c1 (j + 1) HU2.out (by omega) hlen _ 0 (Or.inl ⟨hcc, rfl, rfl⟩)).mono ?_
              rintro e w3 ⟨rfl, d, rfl⟩
              go_wp2
              go_ret
              exact ⟨rfl, hb12.trans (below_draws' _ _ _)⟩
            · have hcc : ¬ c1 = j + 1 := by assumption
              have hR := HRR.out
              rw [if_neg hcc] at hR
              subst hR
              refine (same_drop w2 b1 o1 l c1 (j + 1) HU2.out (by omega) hlen _ (c1 - (j + 1)) (Or.inr ⟨rfl, rfl⟩)).mono ?_
              rintro e w3 ⟨rfl, d, rfl⟩
              go_wp2
              go_ret
              exact ⟨rfl, hb12.trans (below_draws' _ _ _)⟩
          | succ t =>
            have qt := K1.out t (by omega)
            go_wp2
            go_round
            case rel =>
              refine ⟨t, by omega, rfl, _, rfl, ?_⟩
              have hst := horner_step l j t ht
              have hfit := horner_fits l j hK HN.out.1.2.1 HN.out.2.1 (j - t) (by omega)
              show _ = _
              rw [HX.out, or_step _ _ (by rw [← hst]; exact hfit) (at8_lt l t), hst]
            case measure => simp [intOf]
set_option maxRecDepth 20000 in
set_option maxHeartbeats 800000 in
theorem law_bad (w : World) (A : Option Addr) (l : List UInt8) (c : Nat) (h : U8 w A l c) (hl : (l.length : Int) ≤ 1048576) (tp : TypeId) (pv : Value) (hev : w.cell? ⟨0, 0, none⟩ = some (.iface tp pv)) (K : Nat) (hK : K ≤ 9) (hf : FirstAt l K) (hov : ¬ (K = 9 ∧ 1 < at8 l K)) (hbad : 9223372036854775807 < horner l K K ∨ (horner l K K ≤ 9223372036854775807 ∧ l.length - (K + 1) < horner l K K)) :
    Calls Tryd.prog 4 #[.slice A l.length c] w fun e w' => e = .returned (.bool true) ∧ Below w.heap.size w w' := by
  have hnil := fun (w : World) (a : Option Addr) (n c : Nat) => Lib.run_eql_slice_nil (P := Tryd.prog) w 22 5 a n c 0 0 Tryd.underlying22
  have HN : Hid (FirstAt l K ∧ ¬ (K = 9 ∧ 1 < at8 l K) ∧ (9223372036854775807 < horner l K K ∨ (horner l K K ≤ 9223372036854775807 ∧ l.length - (K + 1) < horner l K K))) := ⟨hf, hov, hbad⟩
  have HU0 : Hid (U8 w A l c) := h
  clear h hf hov hbad
  go_enter Tryd.func4, Tryd.ntmps4
  go_wp2_with fail
  refine (bytes_small _ _ _ _ hl).mono ?_
  rintro e w0 ⟨rfl, rfl⟩
  go_wp2_with fail
  refine (clone_any _ A l c HU0.out (by omega)).mono ?_
  rintro e w1 ⟨A1, c1, rfl, hu1, hb1⟩
  have HU1 : Hid (U8 w1 A1 l c1) := hu1
  have hev1 := cell_on hb1 hev
  clear hu1 HU0 hev
  go_wp2_with fail
  obtain ⟨b1, o1, e1, k1⟩ := HU1.out.form (by have := HN.out.1.1; omega)
  subst e1
  have HD := dec_first l K HN.out.1 hK HN.out.2.1
  have hlen : K + 1 ≤ l.length := HN.out.1.1
  have HDc : Calls Tryd.prog 12 #[.slice (some ⟨b1, o1, none⟩) l.length c1] w1 fun e w' => e = .returned (.tuple #[.int .i64 0, .slice none 0 0, .iface tp pv]) ∧ Below w1.heap.size w1 w' := by
    rcases HN.out.2.2 with hb | ⟨hb, hs⟩
    · exact dec_big w1 _ l c1 HU1.out (horner l K K : Int) ((K : Int) + 1) (by rw [HD]) (by rw [HD]) (by omega) (by omega) tp pv hev1
    · exact dec_short w1 b1 o1 l c1 (K + 1) HU1.out (horner l K K : Int) (by rw [HD]) (by rw [HD]; simp) (by omega) hlen (by omega) (by omega) (by omega) tp pv hev1
  obtain ⟨x0, hx0⟩ : ∃ x0 : Int, x0 = (horner l K K : Int) := ⟨_, rfl⟩
  have HX0 : Hid (x0 = (horner l K K : Int)) := hx0
  clear hx0
  refine HDc.mono ?_
  clear HDc
  rintro e w2 ⟨rfl, hb2⟩
  have HU2 : Hid (U8 w2 (some ⟨b1, o1, none⟩) l c1) := HU1.out.on hb2
  have hb2' := hb2
  have hb12 := hb1.trans (hb2.mono hb1.size)
  clear hb1 hb2 HU1 HD hev1
  go_wp2_with fail
  have K1 : Hid (∀ j, j < l.length → w2.cell? ⟨b1, o1 + j, none⟩ = some (.int .u8 (at8 l j))) := fun j hj => cell_on hb2' (k1 j hj)
  clear k1
  go_loop [6, 7] (fun kk i => ∃ j : Nat, j ≤ K ∧ kk = .int .i64 (-1) ∧ i = .int .i64 j) (fun _ i => 10 - (intOf i).toNat)
  case atStart => exact ⟨0, Nat.zero_le _, rfl, rfl⟩
  case round =>
    obtain ⟨j, hj, rfl, rfl⟩ := hrel
    have q := K1.out j (by omega)
    by_cases h9 : j < K
    · have hb := HN.out.1.2.2 j h9
      have hb' : ¬ ((at8 l j : Int) < 128) := by omega
      clear hb
      go_wp2
      go_round
      case rel => exact ⟨j + 1, by omega, rfl, by go_num⟩
      case measure => simp [intOf]; omega
    · have e9 : j = K := by omega
      subst e9
      have hb := HN.out.1.2.1
      have hb' : ((at8 l j : Int) < 128) := by omega
      clear hb
      have h9 : ((j : Int) == 9) = false ∨ (((j : Int) == 9) = true ∧ w2.cell? ⟨b1, o1 + 9, none⟩ = some (.int .u8 (at8 l 9)) ∧ ¬ (1 : Int) < (at8 l 9 : Int) ∧ (9 : Int) < l.length) := by
        by_cases e : j = 9
        · right
          subst e
          exact ⟨rfl, q, by have := HN.out.2.1; omega, by omega⟩
        · left; simp; omega
      rcases h9 with h9 | ⟨h9, q9, hb9, hl9⟩
      all_goals
        go_wp2_with fail
        go_loop [9, 10] (fun x i => ∃ t : Nat, t ≤ j ∧ i = .int .i64 ((t : Int) - 1) ∧ ∃ X : Int, x = .int .u64 X ∧ Hid (X = (horner l j (j - t) : Int))) (fun _ i => (intOf i + 1).toNat)
        case atStart => exact ⟨j, Nat.le_refl _, rfl, _, rfl, by rw [Nat.sub_self]; rfl⟩
        case round =>
          obtain ⟨t, ht, rfl, X, rfl, HX⟩ := hrel
          cases t with
          | zero =>
            have hXe : X = x0 := by rw [HX.out, HX0.out, Nat.sub_zero]
            subst hXe
            have hx3 : 0 ≤ X := by have := HX0.out; omega
            have hbx : 9223372036854775807 < X ∨ (X ≤ 9223372036854775807 ∧ (l.length : Int) - (j : Int) - 1 < X) := by
              have e := HX0.out
              rcases HN.out.2.2 with hb | ⟨hb, hs⟩
              · left; omega
              · right; exact ⟨by omega, by omega⟩
            rcases hbx with hx1 | ⟨hx1, hx2⟩
            all_goals
              go_wp2
              go_ret
              exact ⟨rfl, hb12⟩
          | succ t =>
            have qt := K1.out t (by omega)
            go_wp2
            go_round
            case rel =>
              refine ⟨t, by omega, rfl, _, rfl, ?_⟩
              have hst := horner_step l j t ht
              have hfit := horner_fits l j hK HN.out.1.2.1 HN.out.2.1 (j - t) (by omega)
              show _ = _
              rw [HX.out, or_step _ _ (by rw [← hst]; exact hfit) (at8_lt l t), hst]
            case measure => simp [intOf]
theorem law_any (w : World) (A : Option Addr) (l : List UInt8) (c : Nat) (h : U8 w A l c) (tp : TypeId) (pv : Value) (hev : w.cell? ⟨0, 0, none⟩ = some (.iface tp pv)) :
    Calls Tryd.prog 4 #[.slice A l.length c] w fun e w' => e = .returned (.bool true) ∧ Below w.heap.size w w' := by
  by_cases hl : (l.length : Int) ≤ 1048576
  · rcases first_or l with hno | ⟨K, hK, hf⟩
    · exact law_none w A l c h hl tp pv hev hno
    · by_cases hov : K = 9 ∧ 1 < at8 l K
      · obtain ⟨rfl, ho⟩ := hov
        exact law_over w A l c h hl tp pv hev hf ho
      · by_cases hb : 9223372036854775807 < horner l K K
        · exact law_bad w A l c h hl tp pv hev K hK hf hov (Or.inl hb)
        · by_cases hs : l.length - (K + 1) < horner l K K
          · exact law_bad w A l c h hl tp pv hev K hK hf hov (Or.inr ⟨by omega, hs⟩)
          · exact law_good w A l c h hl K hK hf hov (by omega)
  · exact law_big w A l.length c (by omega)
end Go.Proofs.Qxb6603526aDoor
