/-
  THE SHELF's CONTRACTS OF 'encoding/binary.Uvarint' AT THIS DUMP, IN PLAIN WORDS: written by the kit's lay-shelf and lay-plain for this program.
-/
import Derived.Ground.MnProg
import Derived.Shelf.Bin.Uvarint
import Derived.Shelf.Bin.UvarintEmpty
import Derived.Test.YbulknwsFmtProg
namespace Go.Proofs
open Go.Shelf
def Ybaf.laysBin45_ren : Go.Shelf.Ren := ⟨fun | 45 => 21 | n => n, fun | 22 => 23 | 33 => 24 | 3 => 3 | 45 => 39 | 0 => 0 | 5 => 5 | 4 => 4 | n => n, fun | n => n⟩
theorem Ybaf.laysBin45 : Go.Proofs.LaysBin.n45 Ybaf.prog Ybaf.laysBin45_ren := {
  mixed := by kernel_rfl
  f45 := Ybaf.func21.trans (congrArg some (by kernel_rfl))
  t0 := Ybaf.underlying0
  a0 := Ybaf.isAgg0
  z0 := Ybaf.sizeOf0
  v0 := Ybaf.zeroValue0
  i0 := by kernel_rfl
  t3 := Ybaf.underlying3
  a3 := Ybaf.isAgg3
  z3 := Ybaf.sizeOf3
  v3 := Ybaf.zeroValue3
  i3 := by kernel_rfl
  t4 := Ybaf.underlying4
  a4 := Ybaf.isAgg4
  z4 := Ybaf.sizeOf4
  v4 := Ybaf.zeroValue4
  i4 := by kernel_rfl
  t5 := Ybaf.underlying5
  a5 := Ybaf.isAgg5
  z5 := Ybaf.sizeOf5
  v5 := Ybaf.zeroValue5
  i5 := by kernel_rfl
  t22 := Ybaf.underlying23
  a22 := Ybaf.isAgg23
  z22 := Ybaf.sizeOf23
  v22 := Ybaf.zeroValue23
  i22 := by kernel_rfl
  t33 := Ybaf.underlying24
  a33 := Ybaf.isAgg24
  z33 := Ybaf.sizeOf24
  v33 := Ybaf.zeroValue24
  i33 := by kernel_rfl
  t45 := Ybaf.underlying39
  a45 := Ybaf.isAgg39
  z45 := Ybaf.sizeOf39
  v45 := Ybaf.zeroValue39
  i45 := by kernel_rfl }
open Go.RowKit in
theorem Ybaf.binary_Uvarint (g o n c : Nat) (l : List UInt8) (w : World) (hl : l.length = n) (hcell : ∀ j (hj : j < l.length), w.cell? ⟨g, o + j, none⟩ = some (.int .u8 (l[j]).toNat)) :
    Calls Ybaf.prog 21 #[.slice (some ⟨g, o, none⟩) n c] w fun e w' => e = .returned (.tuple #[.int .u64 (Lib.uvarintDec l).1, .int .i64 (Lib.uvarintDec l).2]) ∧ w' = w := Any.binary_Uvarint Ybaf.laysBin45 g o n c l w hl hcell
open Go.RowKit in
theorem Ybaf.binary_Uvarint_empty (ao : Option Addr) (c : Nat) (w : World) :
    Calls Ybaf.prog 21 #[.slice ao 0 c] w fun e w' => e = .returned (.tuple #[.int .u64 (Lib.uvarintDec []).1, .int .i64 (Lib.uvarintDec []).2]) ∧ w' = w := Any.binary_Uvarint_empty Ybaf.laysBin45 ao c w
end Go.Proofs
