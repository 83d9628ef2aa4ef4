/-
  (ASPath).Prepend: a new segment in front, or the first one longer by one.
-/
import Derived.Test.Qxb6604577aPath
import Derived.Deep.RegionLaw
namespace Go.Proofs.Qxb6604577a
open Go.RowKit

theorem seg36 : (Try.prog.info? 36).map (fun i => (i.zero, i.size, i.bytes)) = some (some (.agg #[.int .u8 0, .slice none 0 0]), 2, 32) := by kernel_rfl
/-- The call hands back a path of n + 1 segments: a sequence of the numbers xs, then the given ones. -/
def Fronted (w : World) (xs : List Int) (n : Nat) (T : Nat → Int) (A : Nat → Option Addr) (X : Nat → List Int) (C : Nat → Nat) (e : Ending) (w' : World) : Prop :=
  ∃ g cap a0 c0, e = .returned (.slice (some ⟨g, 0, none⟩) (n + 1) cap) ∧ n + 1 ≤ cap ∧ PathAt w' g 0 (n + 1) (cons 2 T) (cons (some a0) A) (cons xs X) (cons c0 C) ∧ Below w.heap.size w w'

/-- What the append behind the two new blocks leaves. -/
theorem fronted_open {w w1 : World} {x : Int} {n : Nat} {T : Nat → Int} {A : Nat → Option Addr} {X : Nat → List Int} {C : Nat → Nat} {v : Value} (hU : ∀ i, i < n → U32 w (A i) (X i) (C i))
    (hown : w1.ownsRow (w.heap.size + 1) 36 2 v (1 + n) ([.int .u8 2, .slice (some ⟨w.heap.size, 0, none⟩) 1 1] ++ pcells T A X C n))
    (hg : ((w.alloc (.cells #[.int .u32 x] 22)).alloc (.cells #[.int .u8 2, .slice (some ⟨w.heap.size, 0, none⟩) 1 1] 36)).grownBy w1 (some (w.heap.size + 1))) : Fronted w [x] n T A X C (.returned v) w1 := by
  have hb : Below w.heap.size w w1 :=
    (((Below.refl w.heap.size w).alloc (Nat.le_refl _) _).alloc (by simp) _).grown hg (by simp; omega) (fun k hk => by cases hk; omega)
  have hblk : w1.heap[w.heap.size]? = some (.cells (u32s [x]).toArray 22 (0, 0)) := by
    rw [hg.block w.heap.size (by simp; omega) (by simp)]
    rw [Below.heap_alloc _ _ _ (by simp)]
    exact blk_new _ _
  have e := pcells_cons 2 (some ⟨w.heap.size, 0, none⟩) [x] 1 T A X C n
  rw [show ([x] : List Int).length = 1 from rfl] at e
  rw [e, Nat.add_comm 1 n] at hown
  obtain ⟨g, cap, rfl, hcap, hp⟩ := path_of_own hown (by omega) (fun i hi => by
    cases i with
    | zero => exact U32_of_block hblk
    | succ i => exact (hU i (by omega)).on hb)
  exact ⟨g, cap, _, _, rfl, hcap, hp, hb⟩

set_option maxRecDepth 20000 in
set_option maxHeartbeats 800000 in
theorem prepend_open (w : World) (PA : Option Addr) (g n pc : Nat) (x : Int) (T : Nat → Int) (A : Nat → Option Addr) (X : Nat → List Int) (C : Nat → Nat) (hP0 : PA = none → n = 0 ∧ pc = 0) (hPA : 0 < n → PA = some ⟨g, 0, none⟩) (hp : PathAt w g 0 n T A X C) (hn : n ≤ 2097152)
    (ho : n = 0 ∨ T 0 ≠ 2 ∨ 255 ≤ (X 0).length) :
    Calls Try.prog 10 #[.slice PA n pc, .int .u32 x] w (Fronted w [x] n T A X C) := by
  obtain ⟨i0, hi, hz0, hz1, hz2⟩ := info_parts seg36
  have HU : Hid (∀ i, i < n → U32 w (A i) (X i) (C i)) := fun i hi => (hp i hi).2.2
  have HN : Hid (∀ ad, PA = some ad → ∀ j u, (pcells T A X C n)[j]? = some u → ((w.alloc (.cells #[.int .u32 x] 22)).alloc (.cells #[.int .u8 2, .slice (some ⟨w.heap.size, 0, none⟩) 1 1] 36)).cell? (ad.add j) = some u) := by
    intro ad ha j u hu
    have hn0 : 0 < n := by
      rcases Nat.eq_zero_or_pos n with h | h
      · subst h; simp [pcells] at hu
      · exact h
    have := hPA hn0
    rw [ha] at this
    cases this
    exact cell_on (((Below.refl w.heap.size w).alloc (Nat.le_refl _) _).alloc (by simp) _) (path_cells hp j u hu)
  have HO : Hid (((w.alloc (.cells #[.int .u32 x] 22)).alloc (.cells #[.int .u8 2, .slice (some ⟨w.heap.size, 0, none⟩) 1 1] 36)).ownsRow (w.heap.size + 1) 36 2 (.slice (some ⟨w.heap.size + 1, 0, none⟩) 1 1) 1 [.int .u8 2, .slice (some ⟨w.heap.size, 0, none⟩) 1 1]) :=
    own_two (by have := blk_new (w.alloc (.cells #[.int .u32 x] 22)) (.cells #[.int .u8 2, .slice (some ⟨w.heap.size, 0, none⟩) 1 1] 36); simpa using this) (Nat.le_refl _)
  have HL : Hid ((pcells T A X C n).length = n * 2) := pcells_length _ _ _ _ _
  have H1 : Hid (∀ u ∈ pcells T A X C n, u.oneCell' = true) := pcells_one _ _ _ _ _
  have HP0 : Hid (PA = none → n = 0 ∧ pc = 0) := hP0
  by_cases h0 : n = 0
  · have hz : ((n : Int) == 0) = true := by simp; omega
    clear ho hp hP0 hPA h0
    go_enter Try.func10, Try.ntmps10
    go_wp2_with (at_builtin; refine wpList_append_any rfl (.tmp 27) (.tmp 28) 30 rfl (w.heap.size + 1) 36 i0 (.agg #[.int .u8 0, .slice none 0 0]) 2 32 Try.underlying30 hi hz0 hz1 hz2 rfl (by decide) _ _ _ rfl HO.out PA n pc (pcells T A X C n) rfl ?c0 ?c1 ?c2 ?c3 ?c4 ?c5 ?c6 ?_)
    case c0 => exact HL.out
    case c1 => exact HP0.out
    case c2 => exact HN.out
    case c3 => exact H1.out
    case c4 => unfold maxLen; omega
    case c5 => omega
    case c6 => simp
    · intro v' w1 hown' hg
      have HF := fronted_open HU.out hown' hg
      clear hown' hg
      go_wp2
      go_ret
      exact HF
  · obtain ⟨t0, t1, _⟩ := hp 0 (by omega)
    simp only [Nat.zero_mul, Nat.add_zero, Nat.zero_add] at t0 t1
    have e := hPA (by omega)
    subst e
    have hz : ((n : Int) == 0) = false := by simp; omega
    have hz' : (0 : Int) < n := by omega
    clear hp hP0 hPA
    by_cases h2 : T 0 = 2
    · have hl : 255 ≤ ((X 0).length : Int) := by omega
      have ht : (T 0 != 2) = false := by simp [h2]
      clear ho h2
      go_enter Try.func10, Try.ntmps10
      go_wp2_with (at_builtin; refine wpList_append_any rfl (.tmp 27) (.tmp 28) 30 rfl (w.heap.size + 1) 36 i0 (.agg #[.int .u8 0, .slice none 0 0]) 2 32 Try.underlying30 hi hz0 hz1 hz2 rfl (by decide) _ _ _ rfl HO.out (some ⟨g, 0, none⟩) n pc (pcells T A X C n) rfl ?c0 ?c1 ?c2 ?c3 ?c4 ?c5 ?c6 ?_)
      case c0 => exact HL.out
      case c1 => exact HP0.out
      case c2 => exact HN.out
      case c3 => exact H1.out
      case c4 => unfold maxLen; omega
      case c5 => omega
      case c6 => simp
      · intro v' w1 hown' hg
        have HF := fronted_open HU.out hown' hg
        clear hown' hg
        go_wp2
        go_ret
        exact HF
    · have ht : (T 0 != 2) = true := by simp [h2]
      clear ho h2
      go_enter Try.func10, Try.ntmps10
      go_wp2_with (at_builtin; refine wpList_append_any rfl (.tmp 27) (.tmp 28) 30 rfl (w.heap.size + 1) 36 i0 (.agg #[.int .u8 0, .slice none 0 0]) 2 32 Try.underlying30 hi hz0 hz1 hz2 rfl (by decide) _ _ _ rfl HO.out (some ⟨g, 0, none⟩) n pc (pcells T A X C n) rfl ?c0 ?c1 ?c2 ?c3 ?c4 ?c5 ?c6 ?_)
      case c0 => exact HL.out
      case c1 => exact HP0.out
      case c2 => exact HN.out
      case c3 => exact H1.out
      case c4 => unfold maxLen; omega
      case c5 => omega
      case c6 => simp
      · intro v' w1 hown' hg
        have HF := fronted_open HU.out hown' hg
        clear hown' hg
        go_wp2
        go_ret
        exact HF
theorem step_append_any {P : Program} {w : World} {ops : Array Oper} {o : Oper} {a : Act} {K : Act → World → Prop} {Q : Exit → Act → World → Prop} {E : Prop} (hgd : o.guard = none) (s x : Operand) (t : TypeId)
    (ho : o.op = .call { callee := .builtin .append, args := #[s, x], argTypes := #[t, t] })
    (base : Nat) (e : TypeId) (i : TypeInfo) (z : Value) (size bytes : Nat) (ht : P.underlying t = some (.slice e)) (hi : P.info? e = some i) (hz : i.zero = some z)
    (hsize : i.size = size) (hby : i.bytes = bytes) (hzs : z.cells.size = size) (hsz : 0 < size)
    (v : Value) (n : Nat) (xs : List Value) (hs : a.eval s = v) (hown : w.ownsRow base e size v n xs)
    (A : Option Addr) (m c : Nat) (news : List Value) (hx : a.eval x = .slice A m c) (hl : news.length = m * size) (hA : ∃ ad, A = some ad)
    (hnews : ∀ ad, A = some ad → ∀ j u, news[j]? = some u → w.cell? (ad.add j) = some u) (h1 : ∀ u ∈ news, u.oneCell' = true)
    (h63 : n + m ≤ maxLen) (hbytes : (n + m) * bytes ≤ 140737488355328) (hbase : base ≤ w.heap.size)
    (h : ∀ v' w', w'.ownsRow base e size v' (n + m) (xs ++ news) → w.grownBy w' v.ownBlock → K (a.put o.dst v') w') :
    if Region.wanted o (yielded ops a.tmps) = true then Oper.wp P o a w K Q else E := by
  have hw : Region.wanted o (yielded ops a.tmps) = true := by simp [Region.wanted, hgd]
  rw [if_pos hw]
  obtain ⟨ad, rfl⟩ := hA
  exact wp_append_own w s x t ho base e i z size bytes ht hi hz hsize hby hzs hsz v n xs hs hown ad m c news hx hl (hnews ad rfl) h1 h63 hbytes hbase (fun v' w' h2 h3 _ => h v' w' h2 h3)
theorem some_if (c : Prop) [Decidable c] (a b : Addr) : ∃ ad, (if c then some a else some b : Option Addr) = some ad := by
  split
  · exact ⟨a, rfl⟩
  · exact ⟨b, rfl⟩
theorem bound63 {n : Nat} (h : n ≤ 2097152) : 1 + n ≤ maxLen := by unfold maxLen; omega
theorem bound47 {n : Nat} (h : n ≤ 2097152) : (1 + n) * 32 ≤ 140737488355328 := by omega
theorem two_new (w1 : World) (c0 c1 : Value) : ((w1.alloc (.cells #[c0, c1] 36)).alloc (.cells #[c0, c1] 36)).drew.ownsRow (w1.heap.size + 1) 36 2 (.slice (some ⟨w1.heap.size + 1, 0, none⟩) 1 1) 1 [c0, c1] :=
  own_two (w := ((w1.alloc (.cells #[c0, c1] 36)).alloc (.cells #[c0, c1] 36)).drew) (by
    have h := blk_new (w1.alloc (.cells #[c0, c1] 36)) (.cells #[c0, c1] 36)
    have e : (w1.alloc (.cells #[c0, c1] 36)).heap.size = w1.heap.size + 1 := by simp
    rw [e] at h
    exact h) (Nat.le_refl _)
theorem two_below (w1 : World) (o1 o2 : Obj) : Below w1.heap.size w1 ((w1.alloc o1).alloc o2).drew := (((Below.refl w1.heap.size w1).alloc (Nat.le_refl _) _).alloc (by simp) _).drew
theorem two_far {w1 : World} {o1 o2 : Obj} {A : Option Addr} {news : List Value} (h : ∀ ad, A = some ad → ∀ j u, news[j]? = some u → w1.cell? (ad.add j) = some u) : ∀ ad, A = some ad → ∀ j u, news[j]? = some u → ((w1.alloc o1).alloc o2).drew.cell? (ad.add j) = some u :=
  fun ad ha j u hu => cell_on (two_below w1 o1 o2) (h ad ha j u hu)
theorem fronted_join {w w1 w2 : World} {g g1 cap1 : Nat} {x : Int} {n : Nat} {T : Nat → Int} {A : Nat → Option Addr} {X : Nat → List Int} {C : Nat → Nat} {v : Value}
    (hown1 : w1.ownsRow w.heap.size 22 1 (.slice (some ⟨g1, 0, none⟩) (1 + (X 0).length) cap1) (1 + (X 0).length) ([.int .u32 x] ++ u32s (X 0))) (hg1 : (w.alloc (.cells #[.int .u32 x] 22)).grownBy w1 (some w.heap.size))
    (hown2 : w2.ownsRow (w1.heap.size + 1) 36 2 v (1 + n) ([.int .u8 2, .slice (some ⟨g1, 0, none⟩) (1 + (X 0).length) cap1] ++ pcells (fun i => T (i + 1)) (fun i => A (i + 1)) (fun i => X (i + 1)) (fun i => C (i + 1)) n))
    (hg2 : ((w1.alloc (.cells #[.int .u8 2, .slice (some ⟨g1, 0, none⟩) (1 + (X 0).length) cap1] 36)).alloc (.cells #[.int .u8 2, .slice (some ⟨g1, 0, none⟩) (1 + (X 0).length) cap1] 36)).drew.grownBy w2 (some (w1.heap.size + 1)))
    (hp : PathAt w g 0 (n + 1) T A X C) : Fronted w (x :: X 0) n (fun i => T (i + 1)) (fun i => A (i + 1)) (fun i => X (i + 1)) (fun i => C (i + 1)) (.returned v) w2 := by
  have hb1 : Below w.heap.size w w1 := ((Below.refl w.heap.size w).alloc (Nat.le_refl _) _).grown hg1 (by simp) (fun k hk => by cases hk; exact Nat.le_refl _)
  have hb2 : Below w1.heap.size w1 w2 := (two_below w1 _ _).grown hg2 (by show w1.heap.size ≤ ((w1.alloc _).alloc _).heap.size; simp; omega) (fun k hk => by cases hk; omega)
  have hb : Below w.heap.size w w2 := hb1.trans (hb2.mono hb1.size)
  have hx : (x :: X 0).length = 1 + (X 0).length := by simp; omega
  have e := pcells_cons 2 (some ⟨g1, 0, none⟩) (x :: X 0) cap1 (fun i => T (i + 1)) (fun i => A (i + 1)) (fun i => X (i + 1)) (fun i => C (i + 1)) n
  rw [hx] at e
  rw [e, Nat.add_comm 1 n] at hown2
  have hU0 : U32 w1 (some ⟨g1, 0, none⟩) (x :: X 0) cap1 := by
    refine ⟨(fun e => by cases e), fun ad ha j u hu => ?_⟩
    cases ha
    refine hown1.cells (g := g1) rfl j _ ?_
    have : [Value.int .u32 x] ++ u32s (X 0) = u32s (x :: X 0) := rfl
    rw [this]
    unfold u32s
    rw [List.getElem?_map, hu]
    rfl
  obtain ⟨gq, cap, rfl, hcap, hq⟩ := path_of_own hown2 (by omega) (fun i hi => by
    cases i with
    | zero => exact hU0.on hb2
    | succ i => exact (hp (i + 1) (by omega)).2.2.on hb)
  exact ⟨gq, cap, _, _, rfl, hcap, hq, hb⟩
set_option maxRecDepth 20000 in
set_option maxHeartbeats 800000 in
theorem prepend_join (w : World) (g n pc : Nat) (x : Int) (T : Nat → Int) (A : Nat → Option Addr) (X : Nat → List Int) (C : Nat → Nat) (hp : PathAt w g 0 (n + 1) T A X C) (hn : n ≤ 2097152) (hpc : n + 1 ≤ pc)
    (hT : T 0 = 2) (hX : (X 0).length < 255) :
    Calls Try.prog 10 #[.slice (some ⟨g, 0, none⟩) (n + 1) pc, .int .u32 x] w (Fronted w (x :: X 0) n (fun i => T (i + 1)) (fun i => A (i + 1)) (fun i => X (i + 1)) (fun i => C (i + 1))) := by
  obtain ⟨i0, hi, hz0, hz1, hz2⟩ := info_parts seg36
  obtain ⟨j0, hj, hy0, hy1, hy2⟩ := info_parts info22
  obtain ⟨t0, t1, u0⟩ := hp 0 (by omega)
  simp only [Nat.zero_mul, Nat.add_zero, Nat.zero_add] at t0 t1
  have HP : Hid (PathAt w g 0 (n + 1) T A X C) := hp
  have HU : Hid (U32 (w.alloc (.cells #[.int .u32 x] 22)) (A 0) (X 0) (C 0)) := u0.on ((Below.refl w.heap.size w).alloc (Nat.le_refl _) _)
  have HO : Hid ((w.alloc (.cells #[.int .u32 x] 22)).ownsRow w.heap.size 22 1 (.slice (some ⟨w.heap.size, 0, none⟩) 1 1) 1 [.int .u32 x]) := own_one (blk_new _ _) (Nat.le_refl _)
  have hz : (((n + 1 : Nat) : Int) == 0) = false := by simp; omega
  have hlen : (0 : Int) < (n : Int) + 1 := by omega
  have ht : (T 0 != 2) = false := by simp [hT]
  have hl : ¬ 255 ≤ ((X 0).length : Int) := by omega
  have hl' : decide (255 ≤ ((X 0).length : Int)) = false := by simp; omega
  have HS : Hid ((u32s (X 0)).length = (X 0).length) := u32s_length _
  have t2 : ∀ ob, (w.alloc ob).cell? ⟨g, 1, none⟩ = some (.slice (A 0) (X 0).length (C 0)) := fun ob => cell_on ((Below.refl w.heap.size w).alloc (Nat.le_refl _) ob) t1
  clear hp u0 hT
  go_enter Try.func10, Try.ntmps10
  go_wp2_with (at_builtin; refine wpList_append_any rfl (.tmp 31) (.tmp 35) 33 rfl w.heap.size 22 j0 (.int .u32 0) 1 4 Try.underlying33 hj hy0 hy1 hy2 rfl (by decide) _ _ _ rfl HO.out (A 0) (X 0).length (C 0) (u32s (X 0)) rfl ?c0 ?c1 ?c2 ?c3 ?c4 ?c5 ?c6 ?_)
  case c0 => simpa using HS.out
  case c1 => intro h; have := HU.out.1 h; exact ⟨by simp [this.1], this.2⟩
  case c2 => exact src_cells HU.out
  case c3 => exact u32s_one _
  case c4 => unfold maxLen; omega
  case c5 => omega
  · intro v1 w1 hown1 hg1
    obtain ⟨g1, cap1, rfl, hgb, hgl⟩ := hown1.form (by omega)
    have HO1 : Hid (w1.ownsRow w.heap.size 22 1 (.slice (some ⟨g1, 0, none⟩) (1 + (X 0).length) cap1) (1 + (X 0).length) ([.int .u32 x] ++ u32s (X 0)) ∧ (w.alloc (.cells #[.int .u32 x] 22)).grownBy w1 (some w.heap.size)) := ⟨hown1, hg1⟩
    clear hown1 hg1
    go_wp2
    have HN : Hid (∀ ad, (if pc = 1 then some ⟨g, 0, none⟩ else some ⟨g, 2, none⟩ : Option Addr) = some ad → ∀ j u, (pcells (fun i => T (i + 1)) (fun i => A (i + 1)) (fun i => X (i + 1)) (fun i => C (i + 1)) n)[j]? = some u → w1.cell? (ad.add j) = some u) := by
      intro ad ha j u hu
      have hb1 : Below w.heap.size w w1 := ((Below.refl w.heap.size w).alloc (Nat.le_refl _) _).grown HO1.out.2 (by simp) (fun k hk => by cases hk; exact Nat.le_refl _)
      by_cases h1 : pc = 1
      · have : n = 0 := by omega
        subst this
        simp [pcells] at hu
      · rw [if_neg h1] at ha
        cases ha
        exact cell_on hb1 (tail_cells HP.out j u hu)
    have HL : Hid ((pcells (fun i => T (i + 1)) (fun i => A (i + 1)) (fun i => X (i + 1)) (fun i => C (i + 1)) n).length = n * 2) := pcells_length _ _ _ _ _
    have H1 : Hid (∀ u ∈ pcells (fun i => T (i + 1)) (fun i => A (i + 1)) (fun i => X (i + 1)) (fun i => C (i + 1)) n, u.oneCell' = true) := pcells_one _ _ _ _ _
    have hpc' : (1 : Int) ≤ (n : Int) + 1 ∧ (n : Int) + 1 ≤ pc := by omega
    go_region_law (refine step_append_any rfl (.tmp 39) (.tmp 41) 30 rfl (w1.heap.size + 1) 36 i0 (.agg #[.int .u8 0, .slice none 0 0]) 2 32 Try.underlying30 hi hz0 hz1 hz2 rfl (by decide) _ _ _ rfl (two_new w1 _ _) _ n (pc - 1) _ rfl HL.out (some_if _ _ _) (two_far HN.out) H1.out (bound63 hn) (bound47 hn) (by simp) ?_; intro v' w2 hown2 hg2; have HF := fronted_join HO1.out.1 HO1.out.2 hown2 hg2 HP.out; clear hown2 hg2)
    go_wp2
    all_goals (go_ret; exact HF)
end Go.Proofs.Qxb6604577a
