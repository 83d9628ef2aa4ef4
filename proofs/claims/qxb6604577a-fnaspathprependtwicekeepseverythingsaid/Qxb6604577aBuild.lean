/-
  zzBuildPath: the segments, deep copied, in memory of the call's own.
-/
import Derived.Test.Qxb6604577aSmall
import Derived.Deep.RegionWith
namespace Go.Proofs.Qxb6604577a
open Go.RowKit
theorem info36 : (Try.prog.info? 36).map (fun i => (i.zero, i.size, i.bytes)) = some (some (.agg #[.int .u8 0, .slice none 0 0]), 2, 32) := by kernel_rfl
/-- The first k segments are built, in block w.heap.size. -/
def Built (w : World) (n : Nat) (T : Nat → Int) (X : Nat → List Int) (A : Nat → Option Addr) (k : Nat) (wr : World) : Prop :=
  ∃ (A1 : Nat → Option Addr) (C1 : Nat → Nat) (cur : Array Value), Below w.heap.size w wr ∧ w.heap.size < wr.heap.size ∧ wr.heap[w.heap.size]? = some (.cells cur 36 (0, 0)) ∧ cur.size = n * 2 ∧
    PathAt wr w.heap.size 0 k T A1 X C1 ∧ (∀ i, i < k → ∀ ad, A1 i = some ad → ad.block ≠ w.heap.size) ∧ ∀ i, i < k → (A1 i = none ↔ A i = none)
theorem blk_cell {w : World} {g : Nat} {cur : Array Value} {t : TypeId} (h : w.heap[g]? = some (.cells cur t (0, 0))) {j : Nat} (hj : j < cur.size) : w.cell? ⟨g, j, none⟩ = some cur[j] ∧ w.frozen? ⟨g, j, none⟩ = false := by
  constructor
  · simp [World.cell?, h, hj]
  · simp [World.frozen?, h]
theorem set_other {w : World} {a b : Addr} {v : Value} (h : a ≠ b) : (w.setCell a v).cell? b = w.cell? b := World.cell?_setCell_other w a b v h
theorem set_same {w : World} {a : Addr} {v u : Value} (h : w.cell? a = some u) : (w.setCell a v).cell? a = some v := World.cell?_setCell_same w a v h
theorem addr_ne {g i j : Nat} (h : i ≠ j) : (⟨g, i, none⟩ : Addr) ≠ ⟨g, j, none⟩ := fun e => h (congrArg Addr.off e)
theorem built_zero (w : World) (n : Nat) (T : Nat → Int) (X : Nat → List Int) (A : Nat → Option Addr) : Built w n T X A 0 (w.alloc (.cells (madeCells #[.int .u8 0, .slice none 0 0] (n * 2)) 36)) :=
  ⟨fun _ => none, fun _ => 0, _, (Below.refl _ _).alloc (Nat.le_refl _) _, by simp, blk_new _ _, size_madeCells _ _, fun _ h => absurd h (Nat.not_lt_zero _), fun _ h => absurd h (Nat.not_lt_zero _), fun _ h => absurd h (Nat.not_lt_zero _)⟩
theorem built_step {w wr w1 : World} {n k : Nat} {T : Nat → Int} {X : Nat → List Int} {A A1 : Nat → Option Addr} {C1 : Nat → Nat} {cur : Array Value} {A2 : Option Addr} {c2 : Nat}
    (hnx : Below w.heap.size w wr) (hgr : w.heap.size < wr.heap.size) (HG : wr.heap[w.heap.size]? = some (.cells cur 36 (0, 0)) ∧ cur.size = n * 2)
    (HP : PathAt wr w.heap.size 0 k T A1 X C1 ∧ (∀ i, i < k → ∀ ad, A1 i = some ad → ad.block ≠ w.heap.size) ∧ ∀ i, i < k → (A1 i = none ↔ A i = none))
    (hlt : k < n) (HQ : U32 w1 A2 (X k) c2 ∧ (A2 = none ↔ A k = none) ∧ ∀ ad, A2 = some ad → wr.drew.heap.size ≤ ad.block) (hB2 : Below wr.drew.heap.size wr.drew w1) :
    Built w n T X A (k + 1) ((w1.setCell ⟨w.heap.size, k * 2, none⟩ (.int .u8 (T k))).setCell ⟨w.heap.size, k * 2 + 1, none⟩ (.slice A2 (X k).length c2)) := by
  obtain ⟨hcs, hsz⟩ := HG
  obtain ⟨hp, hne, hni⟩ := HP
  obtain ⟨hU2, hN2, hF2⟩ := HQ
  have h1 : w1.heap[w.heap.size]? = some (.cells cur 36 (0, 0)) := (hB2.block _ hgr).trans hcs
  have hs1 : wr.heap.size ≤ w1.heap.size := hB2.size
  have hon : Below wr.heap.size wr w1 := ⟨hB2.os, hB2.tape, hB2.output, hB2.size, hB2.block⟩
  have c0 := (blk_cell h1 (j := k * 2) (by omega)).1
  have c1 := (blk_cell h1 (j := k * 2 + 1) (by omega)).1
  have far : ∀ (ad : Addr) (x y : Value), ad.block ≠ w.heap.size → ((w1.setCell ⟨w.heap.size, k * 2, none⟩ x).setCell ⟨w.heap.size, k * 2 + 1, none⟩ y).cell? ad = w1.cell? ad := by
    intro ad x y hb
    rw [set_other (by intro e; subst e; exact hb rfl), set_other (by intro e; subst e; exact hb rfl)]
  have near : ∀ (j : Nat) (x y : Value), j ≠ k * 2 → j ≠ k * 2 + 1 → ((w1.setCell ⟨w.heap.size, k * 2, none⟩ x).setCell ⟨w.heap.size, k * 2 + 1, none⟩ y).cell? ⟨w.heap.size, j, none⟩ = w1.cell? ⟨w.heap.size, j, none⟩ := by
    intro j x y ha hb
    rw [set_other (by intro e; cases e; exact hb rfl), set_other (by intro e; cases e; exact ha rfl)]
  have blk : ∀ ad : Addr, ∀ j, (ad.add j).block = ad.block := by intro ad j; unfold Addr.add; split <;> rfl
  have u32far : ∀ (B : Option Addr) (xs : List Int) (c : Nat) (x y : Value), U32 w1 B xs c → (∀ ad, B = some ad → ad.block ≠ w.heap.size) → U32 ((w1.setCell ⟨w.heap.size, k * 2, none⟩ x).setCell ⟨w.heap.size, k * 2 + 1, none⟩ y) B xs c :=
    fun B xs c x y h hb => ⟨h.1, fun ad ha j u hu => by rw [far _ _ _ (by rw [blk]; exact hb ad ha)]; exact h.2 ad ha j u hu⟩
  refine ⟨fun i => if i = k then A2 else A1 i, fun i => if i = k then c2 else C1 i, (cur.setIfInBounds (k * 2) (.int .u8 (T k))).setIfInBounds (k * 2 + 1) (.slice A2 (X k).length c2), ?_, ?_, ?_, ?_, ?_, ?_, ?_⟩
  · exact (((hnx.trans (hon.mono (by omega))).setCell (Nat.le_refl _) _).setCell (Nat.le_refl _) _)
  · simp; omega
  · exact heap_setCell_same _ _ _ _ _ _ (heap_setCell_same _ _ _ _ _ _ h1)
  · simp [hsz]
  · intro i hi
    by_cases e : i = k
    · subst e
      simp only [if_true, Nat.zero_add]
      refine ⟨?_, ?_, u32far _ _ _ _ _ hU2 (fun ad ha => ?_)⟩
      · rw [set_other (addr_ne (by omega))]
        exact set_same c0
      · exact set_same (by rw [set_other (addr_ne (by omega))]; exact c1)
      · have := hF2 ad ha
        have h2 : wr.heap.size ≤ ad.block := this
        omega
    · have hi' : i < k := by omega
      obtain ⟨p1, p2, p3⟩ := hp i hi'
      simp only [if_neg e]
      simp only [Nat.zero_add] at p1 p2 ⊢
      refine ⟨?_, ?_, u32far _ _ _ _ _ (p3.on hon) (hne i hi')⟩
      · rw [near _ _ _ (by omega) (by omega)]; exact cell_on hon p1
      · rw [near _ _ _ (by omega) (by omega)]; exact cell_on hon p2
  · intro i hi ad ha
    by_cases e : i = k
    · subst e
      simp only [if_true] at ha
      have h2 : wr.heap.size ≤ ad.block := hF2 ad ha
      omega
    · simp only [if_neg e] at ha
      exact hne i (by omega) ad ha
  · intro i hi
    by_cases e : i = k
    · subst e; simp only [if_true]; exact hN2
    · simp only [if_neg e]; exact hni i (by omega)
theorem Hid.mk7 {a b c : Prop} (h1 : a) (h2 : b) (h3 : c) : Hid (a ∧ b ∧ c) := ⟨h1, h2, h3⟩
/-- The two cells that the round stores into, behind the clone. -/
theorem two_cells {wr w1 : World} {g n k : Nat} {cur : Array Value} (h : wr.heap[g]? = some (.cells cur 36 (0, 0))) (hs : cur.size = n * 2) (hk : k < n) (hg : g < wr.heap.size) (hb : Below wr.drew.heap.size wr.drew w1) :
    (∃ v, w1.cell? ⟨g, k * 2, none⟩ = some v) ∧ (∃ v, w1.cell? ⟨g, k * 2 + 1, none⟩ = some v) ∧ w1.frozen? ⟨g, k * 2, none⟩ = false ∧ w1.frozen? ⟨g, k * 2 + 1, none⟩ = false := by
  have h1 : w1.heap[g]? = some (.cells cur 36 (0, 0)) := (hb.block g hg).trans h
  exact ⟨⟨_, (blk_cell h1 (j := k * 2) (by omega)).1⟩, ⟨_, (blk_cell h1 (j := k * 2 + 1) (by omega)).1⟩, (blk_cell h1 (j := k * 2) (by omega)).2, (blk_cell h1 (j := k * 2 + 1) (by omega)).2⟩
set_option maxRecDepth 20000 in
set_option maxHeartbeats 400000 in
theorem build_some (w : World) (ad : Addr) (tb to n tc : Nat) (RA : Option Addr) (b o c : Nat) (T : Nat → Int) (A : Nat → Option Addr) (X : Nat → List Int) (C : Nat → Nat) (hAD : 0 < n → ad = ⟨tb, to, none⟩) (hRA : 0 < n → RA = some ⟨b, o, none⟩) (hT : ∀ i, i < n → w.cell? ⟨tb, to + i, none⟩ = some (.int .u8 (T i))) (hR : Rows32 w b o n A X C) (hn : n ≤ 1048576) (hf : (flat X n).length ≤ 1048576) :
    Calls Try.prog 9 #[.slice (some ad) n tc, .slice RA n c] w fun e w' => ∃ g A' C', e = .returned (.slice (some ⟨g, 0, none⟩) n n) ∧ PathAt w' g 0 n T A' X C' ∧ (∀ i, i < n → (A' i = none ↔ A i = none)) ∧ Below w.heap.size w w' := by
  obtain ⟨i0, hi, hz0, hz1, hz2⟩ := info_parts info36
  have hnil := fun (w : World) (a : Option Addr) (n c : Nat) => Lib.run_eql_slice_nil (P := Try.prog) w 25 5 a n c 0 0 Try.underlying25
  have hmk := fun (w : World) => run_make (P := Try.prog) w 30 36 i0 _ Try.underlying30 hi hz0 .i64 .i64 (n : Int) (n : Int) (by omega) (by omega) (by rw [hz2]; omega) (by omega)
  rw [hz1] at hmk
  simp only [Int.toNat_natCast] at hmk
  have HR : Hid (Rows32 w b o n A X C) := hR
  have HT : Hid (∀ i, i < n → w.cell? ⟨tb, to + i, none⟩ = some (.int .u8 (T i))) := hT
  clear hR hT hi hz0 hz1 hz2
  go_enter Try.func9, Try.ntmps9
  go_wp2_with fail
  go_loopw [6] (fun i wr => ∃ k : Nat, k ≤ n ∧ i = .int .i64 k ∧ Built w n T X A k wr) (fun i _ => n - (intOf i).toNat)
  case atStart => exact ⟨0, Nat.zero_le _, rfl, built_zero _ _ _ _ _⟩
  case round =>
    obtain ⟨k, hk, rfl, hbu⟩ := hrel
    by_cases hlt : k < n
    · have e := hRA (by omega)
      subst e
      have e2 := hAD (by omega)
      subst e2
      obtain ⟨A1, C1, cur, hnx, hgr, hcs, hsz, hp, hne, hni⟩ := hbu
      obtain ⟨hc0, hu0⟩ := HR.out k hlt
      have hc := cell_on hnx hc0
      have ht := cell_on hnx (HT.out k hlt)
      have hlen : (X k).length ≤ 1048576 := by
        have hfk := flat_mono X (show k + 1 ≤ n by omega)
        have hfs := congrArg List.length (flat_succ X k)
        rw [List.length_append] at hfs
        omega
      have HU : Hid (U32 wr.drew (A k) (X k) (C k)) := hu0.on hnx.drew
      have HP : Hid (PathAt wr w.heap.size 0 k T A1 X C1 ∧ (∀ i, i < k → ∀ ad, A1 i = some ad → ad.block ≠ w.heap.size) ∧ ∀ i, i < k → (A1 i = none ↔ A i = none)) := ⟨hp, hne, hni⟩
      have HG : Hid (wr.heap[w.heap.size]? = some (.cells cur 36 (0, 0)) ∧ cur.size = n * 2) := ⟨hcs, hsz⟩
      clear hp hne hni hcs hsz hc0 hu0
      go_wp2_with fail
      go_region_with (go_at_call 16; refine (clone_any _ (A k) (X k) (C k) HU.out hlen).mono ?_; rintro e w1 ⟨A2, c2, rfl, hU2, hN2, hF2, hB2⟩; have HQ := Hid.mk7 hU2 hN2 hF2; obtain ⟨⟨y1, q1⟩, ⟨y2, q2⟩, q3, q4⟩ := two_cells HG.out.1 HG.out.2 hlt hgr hB2; have ht1 := cell_on (w := wr.drew) hB2 ht; have hc1 := cell_on (w := wr.drew) hB2 hc; clear hU2 hN2 hF2)
      all_goals go_wp2
      all_goals (go_roundw; case measure => (simp [intOf]; omega))
      all_goals exact ⟨k + 1, by omega, by go_num, built_step hnx hgr HG.out HP.out hlt HQ.out hB2⟩
    · have hkn : k = n := by omega
      subst hkn
      obtain ⟨A1, C1, cur, hnx, hgr, hcs, hsz, hp, hne, hni⟩ := hbu
      go_wp2
      go_ret
      exact ⟨_, A1, C1, rfl, hp, hni, hnx⟩
theorem build_none (w : World) (RA : Option Addr) (c : Nat) :
    Calls Try.prog 9 #[.slice none 0 0, .slice RA 0 c] w fun e w' => e = .returned (.slice none 0 0) ∧ w' = w := by
  have hnil := fun (w : World) (a : Option Addr) (n c : Nat) => Lib.run_eql_slice_nil (P := Try.prog) w 25 5 a n c 0 0 Try.underlying25
  go_enter Try.func9, Try.ntmps9
  go_wp2
  go_ret
  exact ⟨rfl, rfl⟩
/-- zzBuildPath at whatever types' slice. -/
theorem build_any (w : World) (TA RA : Option Addr) (tb to n tc b o c : Nat) (T : Nat → Int) (A : Nat → Option Addr) (X : Nat → List Int) (C : Nat → Nat) (hT0 : TA = none → n = 0 ∧ tc = 0) (hTA : 0 < n → TA = some ⟨tb, to, none⟩) (hRA : 0 < n → RA = some ⟨b, o, none⟩) (hT : ∀ i, i < n → w.cell? ⟨tb, to + i, none⟩ = some (.int .u8 (T i))) (hR : Rows32 w b o n A X C) (hn : n ≤ 1048576) (hf : (flat X n).length ≤ 1048576) :
    Calls Try.prog 9 #[.slice TA n tc, .slice RA n c] w fun e w' => ∃ PA pc g A' C', e = .returned (.slice PA n pc) ∧ n ≤ pc ∧ (PA = none → n = 0 ∧ pc = 0) ∧ (0 < n → PA = some ⟨g, 0, none⟩) ∧ PathAt w' g 0 n T A' X C' ∧ (∀ i, i < n → (A' i = none ↔ A i = none)) ∧ Below w.heap.size w w' := by
  cases TA with
  | none =>
    obtain ⟨rfl, rfl⟩ := hT0 rfl
    refine (build_none w RA c).mono ?_
    rintro e w' ⟨rfl, rfl⟩
    exact ⟨none, 0, 0, fun _ => none, fun _ => 0, rfl, Nat.le_refl _, fun _ => ⟨rfl, rfl⟩, fun h => absurd h (Nat.not_lt_zero _), fun _ h => absurd h (Nat.not_lt_zero _), fun _ h => absurd h (Nat.not_lt_zero _), Below.refl _ _⟩
  | some ad =>
    refine (build_some w ad tb to n tc RA b o c T A X C (fun h => Option.some.inj (hTA h)) hRA hT hR hn hf).mono ?_
    rintro e w' ⟨g, A', C', rfl, hp, hni, hb⟩
    exact ⟨some ⟨g, 0, none⟩, n, g, A', C', rfl, Nat.le_refl _, (fun e => by cases e), fun _ => rfl, hp, hni, hb⟩
end Go.Proofs.Qxb6604577a
