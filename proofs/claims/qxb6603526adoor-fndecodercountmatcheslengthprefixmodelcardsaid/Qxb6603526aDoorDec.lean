/-
  store.ZZdecoderCount over encoding/binary.Uvarint's contract: refused, or the count and the bytes behind it.
-/
import Derived.Test.Qxb6603526aDoorSmall
import Derived.Test.Qxb6603526aDoorShelf
namespace Go.Proofs.Qxb6603526aDoor
open Go.RowKit
theorem uv_any (w : World) (A : Option Addr) (l : List UInt8) (c : Nat) (h : U8 w A l c) (v k : Int) (hv : v = ((Lib.uvarintDec l).1 : Int)) (hk : k = (Lib.uvarintDec l).2) :
    Calls Tryd.prog 18 #[.slice A l.length c] w fun e w' => e = .returned (.tuple #[.int .u64 v, .int .i64 k]) ∧ w' = w := by
  subst hv hk
  by_cases hx : 0 < l.length
  · obtain ⟨b, o, rfl, hc⟩ := h.form hx
    exact Tryd.binary_Uvarint b o l.length c l w rfl (fun j hj => by rw [hc j hj, at8_get l j hj])
  · have e : l = [] := List.length_eq_zero_iff.1 (by omega)
    subst e
    exact Tryd.binary_Uvarint_empty A c w
set_option maxRecDepth 20000 in
set_option maxHeartbeats 800000 in
theorem dec_bad1 (w : World) (A : Option Addr) (l : List UInt8) (c : Nat) (h : U8 w A l c) (v k : Int) (hv : v = ((Lib.uvarintDec l).1 : Int)) (hk : k = (Lib.uvarintDec l).2) (hk0 : k ≤ 0) (tp : TypeId) (pv : Value) (hev : w.cell? ⟨0, 0, none⟩ = some (.iface tp pv)) :
    Calls Tryd.prog 12 #[.slice A l.length c] w fun e w' => e = .returned (.tuple #[.int .i64 0, .slice none 0 0, .iface tp pv]) ∧ Below w.heap.size w w' := by
  have HV : Hid (v = ((Lib.uvarintDec l).1 : Int) ∧ k = (Lib.uvarintDec l).2) := ⟨hv, hk⟩
  have HU : Hid (∀ ob, U8 (w.alloc ob) A l c) := fun ob => h.on ((Below.refl _ _).alloc (Nat.le_refl _) ob)
  have he : ∀ ob, (w.alloc ob).cell? ⟨0, 0, none⟩ = some (.iface tp pv) := fun ob => cell_on ((Below.refl _ _).alloc (Nat.le_refl _) ob) hev
  clear h hv hk hev
  go_enter Tryd.func12, Tryd.ntmps12
  go_wp2_with (first | (go_at_call 18; refine (uv_any _ A l c (HU.out _) v k HV.out.1 HV.out.2).mono ?_; rintro e w' ⟨rfl, rfl⟩) | go_in)
  go_end0
  go_wp2_with go_in
  go_quiet (fail)
  go_wp2
  go_ret3
  exact ⟨rfl, ((Below.refl _ _).alloc (Nat.le_refl _) _).trans (below_draws' _ _ _)⟩
set_option maxRecDepth 20000 in
set_option maxHeartbeats 800000 in
theorem dec_big (w : World) (A : Option Addr) (l : List UInt8) (c : Nat) (h : U8 w A l c) (v k : Int) (hv : v = ((Lib.uvarintDec l).1 : Int)) (hk : k = (Lib.uvarintDec l).2) (hk0 : 0 < k) (hv0 : 9223372036854775807 < v) (tp : TypeId) (pv : Value) (hev : w.cell? ⟨0, 0, none⟩ = some (.iface tp pv)) :
    Calls Tryd.prog 12 #[.slice A l.length c] w fun e w' => e = .returned (.tuple #[.int .i64 0, .slice none 0 0, .iface tp pv]) ∧ Below w.heap.size w w' := by
  have HV : Hid (v = ((Lib.uvarintDec l).1 : Int) ∧ k = (Lib.uvarintDec l).2) := ⟨hv, hk⟩
  have HU : Hid (∀ ob, U8 (w.alloc ob) A l c) := fun ob => h.on ((Below.refl _ _).alloc (Nat.le_refl _) ob)
  have he : ∀ ob, (w.alloc ob).cell? ⟨0, 0, none⟩ = some (.iface tp pv) := fun ob => cell_on ((Below.refl _ _).alloc (Nat.le_refl _) ob) hev
  clear h hv hk hev
  go_enter Tryd.func12, Tryd.ntmps12
  go_wp2_with (first | (go_at_call 18; refine (uv_any _ A l c (HU.out _) v k HV.out.1 HV.out.2).mono ?_; rintro e w' ⟨rfl, rfl⟩) | go_in)
  go_end0
  go_wp2_with go_in
  go_quiet (fail)
  go_wp2
  go_ret3
  exact ⟨rfl, ((Below.refl _ _).alloc (Nat.le_refl _) _).trans (below_draws' _ _ _)⟩
set_option maxRecDepth 20000 in
set_option maxHeartbeats 800000 in
theorem dec_short (w : World) (b o : Nat) (l : List UInt8) (c kn : Nat) (h : U8 w (some ⟨b, o, none⟩) l c) (v : Int) (hv : v = ((Lib.uvarintDec l).1 : Int)) (hk : (kn : Int) = (Lib.uvarintDec l).2) (hk0 : 1 ≤ kn) (hkl : kn ≤ l.length) (hv0 : 0 ≤ v) (hv1 : v ≤ 9223372036854775807) (hsh : ((l.length - kn : Nat) : Int) < v) (tp : TypeId) (pv : Value) (hev : w.cell? ⟨0, 0, none⟩ = some (.iface tp pv)) :
    Calls Tryd.prog 12 #[.slice (some ⟨b, o, none⟩) l.length c] w fun e w' => e = .returned (.tuple #[.int .i64 0, .slice none 0 0, .iface tp pv]) ∧ Below w.heap.size w w' := by
  have HV : Hid (v = ((Lib.uvarintDec l).1 : Int) ∧ (kn : Int) = (Lib.uvarintDec l).2) := ⟨hv, hk⟩
  have HU : Hid (∀ ob, U8 (w.alloc ob) (some ⟨b, o, none⟩) l c) := fun ob => h.on ((Below.refl _ _).alloc (Nat.le_refl _) ob)
  have hcap : l.length ≤ c := h.2.1
  have hk1 : ¬ (kn : Int) ≤ 0 := by omega
  have hk2 : (kn : Int) ≤ l.length := by omega
  have he : ∀ ob, (w.alloc ob).cell? ⟨0, 0, none⟩ = some (.iface tp pv) := fun ob => cell_on ((Below.refl _ _).alloc (Nat.le_refl _) ob) hev
  clear h hv hk hev
  go_enter Tryd.func12, Tryd.ntmps12
  go_wp2_with (first | (go_at_call 18; refine (uv_any _ _ l c (HU.out _) v kn HV.out.1 HV.out.2).mono ?_; rintro e w' ⟨rfl, rfl⟩) | go_in)
  all_goals
    go_end0
    go_wp2_with go_in
    go_quiet (fail)
    go_wp2
    go_ret3
    exact ⟨rfl, ((Below.refl _ _).alloc (Nat.le_refl _) _).trans (below_draws' _ _ _)⟩
set_option maxRecDepth 20000 in
set_option maxHeartbeats 800000 in
theorem dec_good (w : World) (b o : Nat) (l : List UInt8) (c kn : Nat) (h : U8 w (some ⟨b, o, none⟩) l c) (v : Int) (hv : v = ((Lib.uvarintDec l).1 : Int)) (hk : (kn : Int) = (Lib.uvarintDec l).2) (hk0 : 1 ≤ kn) (hkl : kn ≤ l.length) (hv0 : 0 ≤ v) (hv1 : v ≤ 9223372036854775807) (hsh : v ≤ ((l.length - kn : Nat) : Int)) :
    Calls Tryd.prog 12 #[.slice (some ⟨b, o, none⟩) l.length c] w fun e w' => e = .returned (.tuple #[.int .i64 v, .slice (if c = kn then some ⟨b, o, none⟩ else some ⟨b, o + kn, none⟩) (l.length - kn) (c - kn), .nilIface]) ∧ Below w.heap.size w w' := by
  have HV : Hid (v = ((Lib.uvarintDec l).1 : Int) ∧ (kn : Int) = (Lib.uvarintDec l).2) := ⟨hv, hk⟩
  have HU : Hid (∀ ob, U8 (w.alloc ob) (some ⟨b, o, none⟩) l c) := fun ob => h.on ((Below.refl _ _).alloc (Nat.le_refl _) ob)
  have hcap : l.length ≤ c := h.2.1
  have hk1 : ¬ (kn : Int) ≤ 0 := by omega
  have hk2 : (kn : Int) ≤ l.length := by omega
  clear h hv hk
  go_enter Tryd.func12, Tryd.ntmps12
  go_wp2_with (first | (go_at_call 18; refine (uv_any _ _ l c (HU.out _) v kn HV.out.1 HV.out.2).mono ?_; rintro e w' ⟨rfl, rfl⟩) | go_in)
  · rename_i hc
    go_quiet (fail)
    go_wp2
    go_ret3
    exact ⟨rfl, ((Below.refl _ _).alloc (Nat.le_refl _) _).trans (below_draws' _ _ _)⟩
  · rename_i hc
    go_quiet (fail)
    go_wp2
    go_ret3
    exact ⟨rfl, ((Below.refl _ _).alloc (Nat.le_refl _) _).trans (below_draws' _ _ _)⟩
end Go.Proofs.Qxb6603526aDoor
