/-
  The contracts of the shelf that this seat uses, laid at this program in plain words (written by the kit's own tools for this program; remarks struck).
-/
import Derived.Shelf.Strings.SlTrimAscii
import Derived.Test.Qxb6600238aDoorProg
namespace Go.Proofs
open Go.Shelf
def Tryd.lays161_ren : Go.Shelf.Ren := ⟨fun | 161 => 18 | 231 => 19 | 227 => 20 | 233 => 21 | 235 => 22 | 228 => 23 | 197 => 24 | 151 => 25 | 260 => 26 | 152 => 27 | 137 => 28 | 119 => 29 | 224 => 30 | 225 => 31 | 217 => 32 | 266 => 33 | n => n, fun | 9 => 9 | 4 => 4 | 3 => 3 | 5 => 5 | 117 => 33 | 116 => 32 | 0 => 0 | 124 => 36 | 105 => 37 | 21 => 21 | 119 => 41 | 46 => 42 | 139 => 45 | 138 => 44 | n => n, fun | 3 => 0 | 4 => 1 | n => n⟩
theorem Tryd.lays161 : Go.Proofs.Lays.n161 Tryd.prog Tryd.lays161_ren := {
  mixed := by kernel_rfl
  f119 := Tryd.func29.trans (congrArg some (by kernel_rfl))
  f137 := Tryd.func28.trans (congrArg some (by kernel_rfl))
  f151 := Tryd.func25.trans (congrArg some (by kernel_rfl))
  f152 := Tryd.func27.trans (congrArg some (by kernel_rfl))
  f161 := Tryd.func18.trans (congrArg some (by kernel_rfl))
  f197 := Tryd.func24.trans (congrArg some (by kernel_rfl))
  f217 := Tryd.func32.trans (congrArg some (by kernel_rfl))
  f224 := Tryd.func30.trans (congrArg some (by kernel_rfl))
  f225 := Tryd.func31.trans (congrArg some (by kernel_rfl))
  f227 := Tryd.func20.trans (congrArg some (by kernel_rfl))
  f228 := Tryd.func23.trans (congrArg some (by kernel_rfl))
  f231 := Tryd.func19.trans (congrArg some (by kernel_rfl))
  f233 := Tryd.func21.trans (congrArg some (by kernel_rfl))
  f235 := Tryd.func22.trans (congrArg some (by kernel_rfl))
  f260 := Tryd.func26.trans (congrArg some (by kernel_rfl))
  f266 := Tryd.func33.trans (congrArg some (by kernel_rfl))
  t0 := Tryd.underlying0
  a0 := Tryd.isAgg0
  z0 := Tryd.sizeOf0
  v0 := Tryd.zeroValue0
  t3 := Tryd.underlying3
  a3 := Tryd.isAgg3
  z3 := Tryd.sizeOf3
  v3 := Tryd.zeroValue3
  t4 := Tryd.underlying4
  a4 := Tryd.isAgg4
  z4 := Tryd.sizeOf4
  v4 := Tryd.zeroValue4
  t5 := Tryd.underlying5
  a5 := Tryd.isAgg5
  z5 := Tryd.sizeOf5
  v5 := Tryd.zeroValue5
  t9 := Tryd.underlying9
  a9 := Tryd.isAgg9
  z9 := Tryd.sizeOf9
  v9 := Tryd.zeroValue9
  t21 := Tryd.underlying21
  a21 := Tryd.isAgg21
  z21 := Tryd.sizeOf21
  v21 := Tryd.zeroValue21
  t46 := Tryd.underlying42
  a46 := Tryd.isAgg42
  z46 := Tryd.sizeOf42
  v46 := Tryd.zeroValue42
  t105 := Tryd.underlying37
  a105 := Tryd.isAgg37
  z105 := Tryd.sizeOf37
  v105 := Tryd.zeroValue37
  t116 := Tryd.underlying32
  a116 := Tryd.isAgg32
  z116 := Tryd.sizeOf32
  t117 := Tryd.underlying33
  a117 := Tryd.isAgg33
  z117 := Tryd.sizeOf33
  v117 := Tryd.zeroValue33
  t119 := Tryd.underlying41
  a119 := Tryd.isAgg41
  z119 := Tryd.sizeOf41
  t124 := Tryd.underlying36
  a124 := Tryd.isAgg36
  z124 := Tryd.sizeOf36
  v124 := Tryd.zeroValue36
  t138 := Tryd.underlying44
  a138 := Tryd.isAgg44
  z138 := Tryd.sizeOf44
  v138 := Tryd.zeroValue44
  t139 := Tryd.underlying45
  a139 := Tryd.isAgg45
  z139 := Tryd.sizeOf45
  v139 := Tryd.zeroValue45
  g3 := by kernel_rfl
  g4 := by kernel_rfl }
open Go.RowKit in
theorem Tryd.strings_TrimLeft (s cutset : ByteArray) (w : World) (hcs : cutset.size < 4294967281) (hascii : ∀ (j : Nat) b, cutset.data.toList[j]? = some b → b.toNat < 128) :
    Calls Tryd.prog 18 #[.string s, .string cutset] w fun e w' => e = .returned (.string ⟨(Lib.trimLeftS s.data.toList cutset.data.toList).toArray⟩) ∧ Below w.heap.size w w' :=
  Any.strings_TrimLeft_laid Tryd.lays161 (by kernel_rfl) s cutset w hcs hascii
end Go.Proofs
