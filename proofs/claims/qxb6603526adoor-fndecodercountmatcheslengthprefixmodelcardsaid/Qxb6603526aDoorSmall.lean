/-
  A slice of bytes in memory told by its list ('U8'); zzSameBytes, the byte count, zzCloneBytes.
-/
import Derived.Test.Qxb6603526aDoorRows
import Derived.Test.Qxb6603526aDoorNums
import Derived.WalkKit
import Derived.WalkSpells
import Derived.Deep.QuietTactic
import Derived.BigQuiet
import Derived.Deep.OwnRows
namespace Go.Proofs.Qxb6603526aDoor
open Go.RowKit

/-- What lies behind a header '.slice A l.length c' of bytes. -/
def U8 (w : World) (A : Option Addr) (l : List UInt8) (c : Nat) : Prop :=
  (A = none → l = [] ∧ c = 0) ∧ l.length ≤ c ∧ ∀ ad, A = some ad → ∀ j, j < l.length → w.cell? (ad.add j) = some (.int .u8 (at8 l j))
theorem add_at (g o j : Nat) : (⟨g, o, none⟩ : Addr).add j = ⟨g, o + j, none⟩ := by unfold Addr.add; split <;> simp_all
theorem cell_on {w w' : World} {a : Addr} {v : Value} (hb : Below w.heap.size w w') (h : w.cell? a = some v) : w'.cell? a = some v := by
  have hlt : a.block < w.heap.size := by
    rcases Nat.lt_or_ge a.block w.heap.size with hl | hl
    · exact hl
    · simp [World.cell?, Array.getElem?_eq_none hl] at h
  rw [hb.cell hlt]; exact h
theorem U8.on {w w' : World} {A : Option Addr} {l : List UInt8} {c : Nat} (h : U8 w A l c) (hb : Below w.heap.size w w') : U8 w' A l c :=
  ⟨h.1, h.2.1, fun ad ha j hj => cell_on hb (h.2.2 ad ha j hj)⟩
theorem below_draws (w : World) (d : Nat) : Below w.heap.size w (w.drewN d) := ⟨rfl, rfl, rfl, Nat.le_refl _, fun _ _ => rfl⟩
theorem below_draws' (B : Nat) (w : World) (d : Nat) : Below B w (w.drewN d) := ⟨rfl, rfl, rfl, Nat.le_refl _, fun _ _ => rfl⟩
theorem blk_new (w : World) (o : Obj) : (w.alloc o).heap[w.heap.size]? = some o := by
  show (w.heap.push o)[w.heap.size]? = _
  simp
theorem blk_cell {w : World} {g : Nat} {cur : Array Value} {t : TypeId} (h : w.heap[g]? = some (.cells cur t (0, 0))) {j : Nat} (hj : j < cur.size) : w.cell? ⟨g, j, none⟩ = some cur[j] ∧ w.frozen? ⟨g, j, none⟩ = false := by
  constructor
  · simp [World.cell?, h, hj]
  · simp [World.frozen?, h]
/-- The header of bytes that are there leads to cells. -/
theorem U8.form {w : World} {A : Option Addr} {l : List UInt8} {c : Nat} (h : U8 w A l c) (hx : 0 < l.length) : ∃ b o, A = some ⟨b, o, none⟩ ∧ ∀ j, j < l.length → w.cell? ⟨b, o + j, none⟩ = some (.int .u8 (at8 l j)) := by
  cases A with
  | none => have := (h.1 rfl).1; subst this; simp at hx
  | some ad =>
    have h0 := h.2.2 ad rfl 0 hx
    obtain ⟨b, o, s⟩ := ad
    cases s with
    | some x => simp [Addr.add, World.cell?] at h0; split at h0 <;> simp at h0
    | none =>
      refine ⟨b, o, rfl, fun j hj => ?_⟩
      have := h.2.2 _ rfl j hj
      rwa [add_at] at this

set_option maxRecDepth 20000 in
set_option maxHeartbeats 400000 in
theorem same_self (w : World) (A : Option Addr) (l : List UInt8) (c : Nat) (h : U8 w A l c) (hm : l.length ≤ 1048576) :
    Calls Tryd.prog 10 #[.slice A l.length c, .slice A l.length c] w fun e w' => e = .returned (.bool true) ∧ ∃ d, w' = w.drewN d := by
  by_cases hx : 0 < l.length
  · obtain ⟨b1, o1, rfl, k1⟩ := h.form hx
    have K1 : Hid (∀ j, j < l.length → w.cell? ⟨b1, o1 + j, none⟩ = some (.int .u8 (at8 l j))) := k1
    clear h k1
    go_enter Tryd.func10, Tryd.ntmps10
    go_wp2_with fail
    go_loopw [5] (fun i wr => ∃ k : Nat, k ≤ l.length ∧ i = .int .i64 k ∧ ∃ d, wr = w.drewN d) (fun i _ => l.length - (intOf i).toNat)
    case atStart => exact ⟨0, Nat.zero_le _, rfl, 0, rfl⟩
    case round =>
      obtain ⟨k, hk, rfl, d, rfl⟩ := hrel
      by_cases hlt : k < l.length
      · have q1 := K1.out k hlt
        go_wp2_with fail
        go_quiet (fail)
        go_wp2
        go_roundw
        case rel => exact ⟨k + 1, by omega, by go_num, _, rfl⟩
        case measure => simp [intOf]; omega
      · go_wp2
        go_ret
        exact ⟨rfl, d, rfl⟩
  · have e : l = [] := List.length_eq_zero_iff.1 (by omega)
    subst e
    go_enter Tryd.func10, Tryd.ntmps10
    go_wp2_with fail
    go_loop [5] (fun i => i = .int .i64 0) (fun _ => 0)
    case atStart => rfl
    case round =>
      subst hrel
      go_wp2
      go_ret
      exact ⟨rfl, 0, rfl⟩
theorem bytes_small (w : World) (A : Option Addr) (n c : Nat) (hn : (n : Int) ≤ 1048576) :
    Calls Tryd.prog 11 #[.slice A n c] w fun e w' => e = .returned (.bool true) ∧ w' = w := by
  go_enter Tryd.func11, Tryd.ntmps11
  go_wp2
  go_ret
  exact ⟨rfl, rfl⟩
theorem bytes_big (w : World) (A : Option Addr) (n c : Nat) (hn : 1048576 < (n : Int)) :
    Calls Tryd.prog 11 #[.slice A n c] w fun e w' => e = .returned (.bool false) ∧ w' = w := by
  go_enter Tryd.func11, Tryd.ntmps11
  go_wp2
  go_ret
  exact ⟨rfl, rfl⟩
theorem info5 : (Tryd.prog.info? 5).map (fun i => (i.zero, i.size, i.bytes)) = some (some (.int .u8 0), 1, 1) := by kernel_rfl
/-- The first k bytes are copied, into block w.heap.size. -/
def Copied (w : World) (l : List UInt8) (k : Nat) (wr : World) : Prop :=
  ∃ cur : Array Value, Below w.heap.size w wr ∧ wr.heap[w.heap.size]? = some (.cells cur 5 (0, 0)) ∧ cur.size = l.length ∧ ∀ i, i < k → cur[i]? = some (.int .u8 (at8 l i))
theorem copied_zero (w : World) (l : List UInt8) : Copied w l 0 (w.alloc (.cells (madeCells #[.int .u8 0] l.length) 5)) :=
  ⟨_, (Below.refl _ _).alloc (Nat.le_refl _) _, blk_new _ _, size_madeCells _ _, fun _ h => absurd h (Nat.not_lt_zero _)⟩
theorem copied_step {w wr : World} {l : List UInt8} {k : Nat} (hk : k < l.length) (h : Copied w l k wr) : Copied w l (k + 1) (wr.setCell ⟨w.heap.size, k, none⟩ (.int .u8 (at8 l k))) := by
  obtain ⟨cur, hb, h1, s1, r1⟩ := h
  refine ⟨cur.setIfInBounds k (.int .u8 (at8 l k)), hb.setCell (Nat.le_refl _) _, heap_setCell_same _ _ _ _ _ _ h1, by simpa using s1, fun i hi => ?_⟩
  by_cases e : i = k
  · subst e; simp [s1, hk]
  · rw [Array.getElem?_setIfInBounds_ne (by omega)]; exact r1 i (by omega)
theorem copied_cell {w wr : World} {l : List UInt8} {k j : Nat} (h : Copied w l k wr) (hj : j < l.length) : (∃ v, wr.cell? ⟨w.heap.size, j, none⟩ = some v) ∧ wr.frozen? ⟨w.heap.size, j, none⟩ = false := by
  obtain ⟨cur, hb, h1, s1, r1⟩ := h
  exact ⟨⟨_, (blk_cell h1 (j := j) (by omega)).1⟩, (blk_cell h1 (j := j) (by omega)).2⟩
theorem copied_done {w wr : World} {l : List UInt8} (h : Copied w l l.length wr) : U8 wr (some ⟨w.heap.size, 0, none⟩) l l.length := by
  obtain ⟨cur, hb, h1, s1, r1⟩ := h
  refine ⟨(fun e => by cases e), Nat.le_refl _, fun ad ha j hj => ?_⟩
  cases ha
  rw [add_at, Nat.zero_add, (blk_cell h1 (j := j) (by omega)).1]
  have := r1 j hj
  rw [Array.getElem?_eq_getElem (by omega)] at this
  exact this
set_option maxRecDepth 20000 in
set_option maxHeartbeats 400000 in
theorem clone_any (w : World) (A : Option Addr) (l : List UInt8) (c : Nat) (h : U8 w A l c) (hm : l.length ≤ 1048576) :
    Calls Tryd.prog 7 #[.slice A l.length c] w fun e w' => ∃ A' c', e = .returned (.slice A' l.length c') ∧ U8 w' A' l c' ∧ Below w.heap.size w w' := by
  have hnil := fun (w : World) (a : Option Addr) (n c : Nat) => Lib.run_eql_slice_nil (P := Tryd.prog) w 22 5 a n c 0 0 Tryd.underlying22
  cases A with
  | none =>
    obtain ⟨rfl, rfl⟩ := h.1 rfl
    go_enter Tryd.func7, Tryd.ntmps7
    go_wp2
    go_ret
    exact ⟨none, 0, rfl, h, Below.refl _ _⟩
  | some ad =>
    have HU : Hid (U8 w (some ad) l c) := h
    clear h
    have hmk := run_make_row' (P := Tryd.prog) 22 5 (.int .u8 0) 1 Tryd.underlying22 info5 rfl .i64 .i64 l.length (by omega) (by omega)
    go_enter Tryd.func7, Tryd.ntmps7
    go_wp2_with fail
    go_loopw [4] (fun i wr => ∃ k : Nat, k ≤ l.length ∧ i = .int .i64 k ∧ Copied w l k wr) (fun i _ => l.length - (intOf i).toNat)
    case atStart => exact ⟨0, Nat.zero_le _, rfl, copied_zero _ _⟩
    case round =>
      obtain ⟨k, hk, rfl, hco⟩ := hrel
      have HC : Hid (Copied w l k wr) := hco
      by_cases hlt : k < l.length
      · obtain ⟨b1, o1, e1, k1⟩ := HU.out.form (by omega)
        cases e1
        obtain ⟨⟨v, z1⟩, z2⟩ := copied_cell hco hlt
        obtain ⟨cur, hb, _⟩ := hco
        have q := cell_on hb (k1 k hlt)
        clear k1 hb
        go_wp2
        go_roundw
        case rel => exact ⟨k + 1, by omega, by go_num, copied_step hlt HC.out⟩
        case measure => simp [intOf]; omega
      · have e : k = l.length := by omega
        subst e
        obtain ⟨cur, hb, _⟩ := hco
        go_wp2
        go_ret
        exact ⟨some ⟨w.heap.size, 0, none⟩, l.length, rfl, copied_done HC.out, hb⟩
end Go.Proofs.Qxb6603526aDoor
