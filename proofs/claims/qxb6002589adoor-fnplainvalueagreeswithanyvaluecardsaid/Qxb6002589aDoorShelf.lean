/-
  The contracts of the shelf that this seat uses, laid at this program in plain words (written by the kit's own tools for this program; remarks struck).
-/
import Derived.Shelf.Bytes.SlTrim
import Derived.Test.Qxb6002589aDoorProg
namespace Go.Proofs
open Go.Shelf
def Tryd.lays11_ren : Go.Shelf.Ren := ⟨fun | 11 => 33 | n => n, fun | 9 => 9 | 27 => 37 | 4 => 4 | 0 => 0 | 3 => 3 | 5 => 5 | n => n, fun | n => n⟩
theorem Tryd.lays11 : Go.Proofs.SlLaysV.n11 Tryd.prog Tryd.lays11_ren := {
  mixed := by kernel_rfl
  f11 := Tryd.func33.trans (congrArg some (by kernel_rfl))
  t0 := Tryd.underlying0
  a0 := Tryd.isAgg0
  z0 := Tryd.sizeOf0
  v0 := Tryd.zeroValue0
  t3 := Tryd.underlying3
  a3 := Tryd.isAgg3
  z3 := Tryd.sizeOf3
  v3 := Tryd.zeroValue3
  t4 := Tryd.underlying4
  a4 := Tryd.isAgg4
  z4 := Tryd.sizeOf4
  v4 := Tryd.zeroValue4
  t5 := Tryd.underlying5
  a5 := Tryd.isAgg5
  z5 := Tryd.sizeOf5
  v5 := Tryd.zeroValue5
  t9 := Tryd.underlying9
  a9 := Tryd.isAgg9
  z9 := Tryd.sizeOf9
  v9 := Tryd.zeroValue9
  t27 := Tryd.underlying37
  a27 := Tryd.isAgg37
  z27 := Tryd.sizeOf37 }
open Go.RowKit in
theorem Tryd.bytes_makeASCIISet (chars : ByteArray) (w : World) (hs : chars.size < 4294967281) (hascii : ∀ (j : Nat) b, chars.data.toList[j]? = some b → b.toNat < 128) :
    Calls Tryd.prog 33 #[.string chars] w fun e w' => e = .returned (.tuple #[.agg (Lib.setCells chars.data.toList), .bool true]) ∧ w' = w.alloc (.cells (Lib.setCells chars.data.toList) 37) :=
  Any.bytes_makeASCIISet Tryd.lays11 (fun w => by kernel_rfl) (by kernel_rfl) chars w hs hascii
def Tryd.lays16_ren : Go.Shelf.Ren := ⟨fun | 16 => 34 | n => n, fun | 31 => 49 | 5 => 5 | 4 => 4 | 0 => 0 | 27 => 37 | n => n, fun | n => n⟩
theorem Tryd.lays16 : Go.Proofs.SlLaysV.n16 Tryd.prog Tryd.lays16_ren := {
  mixed := by kernel_rfl
  f16 := Tryd.func34.trans (congrArg some (by kernel_rfl))
  t0 := Tryd.underlying0
  a0 := Tryd.isAgg0
  z0 := Tryd.sizeOf0
  v0 := Tryd.zeroValue0
  t4 := Tryd.underlying4
  a4 := Tryd.isAgg4
  z4 := Tryd.sizeOf4
  v4 := Tryd.zeroValue4
  t5 := Tryd.underlying5
  a5 := Tryd.isAgg5
  z5 := Tryd.sizeOf5
  v5 := Tryd.zeroValue5
  t27 := Tryd.underlying37
  a27 := Tryd.isAgg37
  z27 := Tryd.sizeOf37
  t31 := Tryd.underlying49
  a31 := Tryd.isAgg49
  z31 := Tryd.sizeOf49
  v31 := Tryd.zeroValue49 }
open Go.RowKit in
theorem Tryd.bytes_asciiSet_contains (b : Nat) (x : UInt8) (v : Bool) (w : World) (hc : w.cell? ⟨b, x.toNat, none⟩ = some (.bool v)) :
    Calls Tryd.prog 34 #[.pointer (some ⟨b, 0, none⟩), .int .u8 x.toNat] w fun e w' => e = .returned (.bool v) ∧ w' = w := Any.bytes_asciiSet_contains Tryd.lays16 b x v w hc
end Go.Proofs
