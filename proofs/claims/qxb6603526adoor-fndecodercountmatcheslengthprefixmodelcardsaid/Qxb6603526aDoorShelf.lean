/-
  The shelf contracts of encoding/binary.Uvarint, laid at this program (the plain text of the shelf tool).
-/
import Derived.Ground.MnProg
import Derived.Shelf.Bin.Uvarint
import Derived.Shelf.Bin.UvarintEmpty
import Derived.Test.Qxb6603526aDoorProg
namespace Go.Proofs
open Go.Shelf
def Tryd.laysBin45_ren : Go.Shelf.Ren := ⟨fun | 45 => 18 | n => n, fun | 22 => 22 | 33 => 26 | 3 => 3 | 45 => 27 | 0 => 0 | 5 => 5 | 4 => 4 | n => n, fun | n => n⟩
theorem Tryd.laysBin45 : Go.Proofs.LaysBin.n45 Tryd.prog Tryd.laysBin45_ren := {
  mixed := by kernel_rfl
  f45 := Tryd.func18.trans (congrArg some (by kernel_rfl))
  t0 := Tryd.underlying0
  a0 := Tryd.isAgg0
  z0 := Tryd.sizeOf0
  v0 := Tryd.zeroValue0
  i0 := by kernel_rfl
  t3 := Tryd.underlying3
  a3 := Tryd.isAgg3
  z3 := Tryd.sizeOf3
  v3 := Tryd.zeroValue3
  i3 := by kernel_rfl
  t4 := Tryd.underlying4
  a4 := Tryd.isAgg4
  z4 := Tryd.sizeOf4
  v4 := Tryd.zeroValue4
  i4 := by kernel_rfl
  t5 := Tryd.underlying5
  a5 := Tryd.isAgg5
  z5 := Tryd.sizeOf5
  v5 := Tryd.zeroValue5
  i5 := by kernel_rfl
  t22 := Tryd.underlying22
  a22 := Tryd.isAgg22
  z22 := Tryd.sizeOf22
  v22 := Tryd.zeroValue22
  i22 := by kernel_rfl
  t33 := Tryd.underlying26
  a33 := Tryd.isAgg26
  z33 := Tryd.sizeOf26
  v33 := Tryd.zeroValue26
  i33 := by kernel_rfl
  t45 := Tryd.underlying27
  a45 := Tryd.isAgg27
  z45 := Tryd.sizeOf27
  v45 := Tryd.zeroValue27
  i45 := by kernel_rfl }
open Go.RowKit in
theorem Tryd.binary_Uvarint (g o n c : Nat) (l : List UInt8) (w : World) (hl : l.length = n) (hcell : ∀ j (hj : j < l.length), w.cell? ⟨g, o + j, none⟩ = some (.int .u8 (l[j]).toNat)) :
    Calls Tryd.prog 18 #[.slice (some ⟨g, o, none⟩) n c] w fun e w' => e = .returned (.tuple #[.int .u64 (Lib.uvarintDec l).1, .int .i64 (Lib.uvarintDec l).2]) ∧ w' = w := Any.binary_Uvarint Tryd.laysBin45 g o n c l w hl hcell
open Go.RowKit in
theorem Tryd.binary_Uvarint_empty (ao : Option Addr) (c : Nat) (w : World) :
    Calls Tryd.prog 18 #[.slice ao 0 c] w fun e w' => e = .returned (.tuple #[.int .u64 (Lib.uvarintDec []).1, .int .i64 (Lib.uvarintDec []).2]) ∧ w' = w := Any.binary_Uvarint_empty Tryd.laysBin45 ao c w
end Go.Proofs
