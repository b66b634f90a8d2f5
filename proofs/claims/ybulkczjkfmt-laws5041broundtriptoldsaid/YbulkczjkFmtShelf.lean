/-
  The contracts of encoding/binary's Uvarint at this program, laid by the kit (lay-shelf, lay-plain).
-/
import Derived.Ground.MnProg
import Derived.Shelf.Bin.Uvarint
import Derived.Shelf.Bin.UvarintEmpty
import Derived.Test.YbulkczjkFmtProg
namespace Go.Proofs
open Go.Shelf
def Ybaf.laysBin45_ren : Go.Shelf.Ren := ⟨fun | 45 => 21 | n => n, fun | 22 => 51 | 33 => 53 | 3 => 3 | 45 => 34 | 0 => 0 | 5 => 5 | 4 => 4 | n => n, fun | n => n⟩
theorem Ybaf.laysBin45 : Go.Proofs.LaysBin.n45 Ybaf.prog Ybaf.laysBin45_ren := {
  mixed := by kernel_rfl
  f45 := Ybaf.func21.trans (congrArg some (by kernel_rfl))
  t0 := Ybaf.underlying0
  a0 := Ybaf.isAgg0
  z0 := Ybaf.sizeOf0
  v0 := Ybaf.zeroValue0
  i0 := by kernel_rfl
  t3 := Ybaf.underlying3
  a3 := Ybaf.isAgg3
  z3 := Ybaf.sizeOf3
  v3 := Ybaf.zeroValue3
  i3 := by kernel_rfl
  t4 := Ybaf.underlying4
  a4 := Ybaf.isAgg4
  z4 := Ybaf.sizeOf4
  v4 := Ybaf.zeroValue4
  i4 := by kernel_rfl
  t5 := Ybaf.underlying5
  a5 := Ybaf.isAgg5
  z5 := Ybaf.sizeOf5
  v5 := Ybaf.zeroValue5
  i5 := by kernel_rfl
  t22 := Ybaf.underlying51
  a22 := Ybaf.isAgg51
  z22 := Ybaf.sizeOf51
  v22 := Ybaf.zeroValue51
  i22 := by kernel_rfl
  t33 := Ybaf.underlying53
  a33 := Ybaf.isAgg53
  z33 := Ybaf.sizeOf53
  v33 := Ybaf.zeroValue53
  i33 := by kernel_rfl
  t45 := Ybaf.underlying34
  a45 := Ybaf.isAgg34
  z45 := Ybaf.sizeOf34
  v45 := Ybaf.zeroValue34
  i45 := by kernel_rfl }
open Go.RowKit in
/-- binary.Uvarint: "Uvarint decodes a uint64 from buf and returns that value and the number of bytes read (> 0). If an error occurred, the value is 0 and the number of bytes n is <= 0 meaning: n == 0: buf too small; n < 0: value larger than 64 bits (overflow) and -n is the number of bytes read.": 'Lib.uvarintDec' OF buf's BYTES, both results. The world is as it was. (LAID: no walk: one application.) -/
theorem Ybaf.binary_Uvarint (g o n c : Nat) (l : List UInt8) (w : World) (hl : l.length = n) (hcell : ∀ j (hj : j < l.length), w.cell? ⟨g, o + j, none⟩ = some (.int .u8 (l[j]).toNat)) :
    Calls Ybaf.prog 21 #[.slice (some ⟨g, o, none⟩) n c] w fun e w' => e = .returned (.tuple #[.int .u64 (Lib.uvarintDec l).1, .int .i64 (Lib.uvarintDec l).2]) ∧ w' = w := Any.binary_Uvarint Ybaf.laysBin45 g o n c l w hl hcell
open Go.RowKit in
/-- binary.Uvarint AT A SLICE WITHOUT ELEMENTS, nil too: (0, 0): "buf too small": 'Lib.uvarintDec []'. The world is as it was. (LAID: no walk: one application.) -/
theorem Ybaf.binary_Uvarint_empty (ao : Option Addr) (c : Nat) (w : World) :
    Calls Ybaf.prog 21 #[.slice ao 0 c] w fun e w' => e = .returned (.tuple #[.int .u64 (Lib.uvarintDec []).1, .int .i64 (Lib.uvarintDec []).2]) ∧ w' = w := Any.binary_Uvarint_empty Ybaf.laysBin45 ao c w
end Go.Proofs
