/-
  DERIVED: THE SHELF's CONTRACTS AT THIS DUMP, IN PLAIN WORDS (tools/lay-plain.mjs out of 'YbulkegdgShelf.lean', which tools/lay-shelf.mjs wrote): THE SAME DECLARATIONS UNDER THE SAME NAMES: 'import', 'namespace', 'open', 'def', 'theorem' AND NOTHING ELSE: no command of the shelf's: FOR A HAND-IN. Each laying: the table of numbers ('.._ren') and one theorem, a field a fact of the dump's own or the kernel's comparison; each contract: ONE APPLICATION.
-/
import Derived.Ground.MnProg
import Derived.Shelf.Bin.Uvarint
import Derived.Shelf.Bin.Varint
import Derived.Test.YbulkegdgProg
namespace Go.Proofs
open Go.Shelf
def Yba.laysBin45_ren : Go.Shelf.Ren := ⟨fun | 45 => 13 | n => n, fun | 22 => 24 | 33 => 29 | 3 => 3 | 45 => 31 | 0 => 0 | 5 => 5 | 4 => 4 | n => n, fun | n => n⟩
theorem Yba.laysBin45 : Go.Proofs.LaysBin.n45 Yba.prog Yba.laysBin45_ren := {
  mixed := by kernel_rfl
  f45 := Yba.func13.trans (congrArg some (by kernel_rfl))
  t0 := Yba.underlying0
  a0 := Yba.isAgg0
  z0 := Yba.sizeOf0
  v0 := Yba.zeroValue0
  i0 := by kernel_rfl
  t3 := Yba.underlying3
  a3 := Yba.isAgg3
  z3 := Yba.sizeOf3
  v3 := Yba.zeroValue3
  i3 := by kernel_rfl
  t4 := Yba.underlying4
  a4 := Yba.isAgg4
  z4 := Yba.sizeOf4
  v4 := Yba.zeroValue4
  i4 := by kernel_rfl
  t5 := Yba.underlying5
  a5 := Yba.isAgg5
  z5 := Yba.sizeOf5
  v5 := Yba.zeroValue5
  i5 := by kernel_rfl
  t22 := Yba.underlying24
  a22 := Yba.isAgg24
  z22 := Yba.sizeOf24
  v22 := Yba.zeroValue24
  i22 := by kernel_rfl
  t33 := Yba.underlying29
  a33 := Yba.isAgg29
  z33 := Yba.sizeOf29
  v33 := Yba.zeroValue29
  i33 := by kernel_rfl
  t45 := Yba.underlying31
  a45 := Yba.isAgg31
  z45 := Yba.sizeOf31
  v45 := Yba.zeroValue31
  i45 := by kernel_rfl }
open Go.RowKit in
/-- binary.Uvarint: Uvarint decodes a uint64 from buf and returns that value and the number of bytes read (> 0). If an error occurred, the value is 0 and the number of bytes n is <= 0 meaning: n == 0: buf too small; n < 0: value larger than 64 bits (overflow) and -n is the number of bytes read.: 'Lib.uvarintDec' OF buf's BYTES, both results. The world is as it was. (LAID: no walk: one application.) -/
theorem Yba.binary_Uvarint (g o n c : Nat) (l : List UInt8) (w : World) (hl : l.length = n) (hcell : ∀ j (hj : j < l.length), w.cell? ⟨g, o + j, none⟩ = some (.int .u8 (l[j]).toNat)) :
    Calls Yba.prog 13 #[.slice (some ⟨g, o, none⟩) n c] w fun e w' => e = .returned (.tuple #[.int .u64 (Lib.uvarintDec l).1, .int .i64 (Lib.uvarintDec l).2]) ∧ w' = w := Any.binary_Uvarint Yba.laysBin45 g o n c l w hl hcell
def Yba.laysBin48_ren : Go.Shelf.Ren := ⟨fun | 48 => 14 | 45 => 13 | n => n, fun | 22 => 24 | 2 => 2 | 3 => 3 | 38 => 39 | 33 => 29 | 45 => 31 | 4 => 4 | 0 => 0 | 5 => 5 | n => n, fun | n => n⟩
theorem Yba.laysBin48 : Go.Proofs.LaysBin.n48 Yba.prog Yba.laysBin48_ren := {
  mixed := by kernel_rfl
  f45 := Yba.func13.trans (congrArg some (by kernel_rfl))
  f48 := Yba.func14.trans (congrArg some (by kernel_rfl))
  t0 := Yba.underlying0
  a0 := Yba.isAgg0
  z0 := Yba.sizeOf0
  v0 := Yba.zeroValue0
  i0 := by kernel_rfl
  t2 := Yba.underlying2
  a2 := Yba.isAgg2
  z2 := Yba.sizeOf2
  v2 := Yba.zeroValue2
  i2 := by kernel_rfl
  t3 := Yba.underlying3
  a3 := Yba.isAgg3
  z3 := Yba.sizeOf3
  v3 := Yba.zeroValue3
  i3 := by kernel_rfl
  t4 := Yba.underlying4
  a4 := Yba.isAgg4
  z4 := Yba.sizeOf4
  v4 := Yba.zeroValue4
  i4 := by kernel_rfl
  t5 := Yba.underlying5
  a5 := Yba.isAgg5
  z5 := Yba.sizeOf5
  v5 := Yba.zeroValue5
  i5 := by kernel_rfl
  t22 := Yba.underlying24
  a22 := Yba.isAgg24
  z22 := Yba.sizeOf24
  v22 := Yba.zeroValue24
  i22 := by kernel_rfl
  t33 := Yba.underlying29
  a33 := Yba.isAgg29
  z33 := Yba.sizeOf29
  v33 := Yba.zeroValue29
  i33 := by kernel_rfl
  t38 := Yba.underlying39
  a38 := Yba.isAgg39
  z38 := Yba.sizeOf39
  v38 := Yba.zeroValue39
  i38 := by kernel_rfl
  t45 := Yba.underlying31
  a45 := Yba.isAgg31
  z45 := Yba.sizeOf31
  v45 := Yba.zeroValue31
  i45 := by kernel_rfl }
open Go.RowKit in
/-- binary.Varint: Varint decodes an int64 from buf and returns that value and the number of bytes read (> 0). If an error occurred, the value is 0 and the number of bytes n is <= 0 ..: 'Lib.varintDec' OF buf's BYTES: what Uvarint decodes, out of the zig-zag ('Lib.unzigzag'); the count as Uvarint's. The world is as it was. (LAID: no walk: one application.) -/
theorem Yba.binary_Varint (g o n c : Nat) (l : List UInt8) (w : World) (hl : l.length = n) (hcell : ∀ j (hj : j < l.length), w.cell? ⟨g, o + j, none⟩ = some (.int .u8 (l[j]).toNat)) :
    Calls Yba.prog 14 #[.slice (some ⟨g, o, none⟩) n c] w fun e w' => e = .returned (.tuple #[.int .i64 (Lib.varintDec l).1, .int .i64 (Lib.varintDec l).2]) ∧ w' = w := Any.binary_Varint Yba.laysBin48 g o n c l w hl hcell
end Go.Proofs
