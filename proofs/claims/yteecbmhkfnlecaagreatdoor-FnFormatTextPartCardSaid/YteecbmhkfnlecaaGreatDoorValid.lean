/-
  utf8.ValidString at this seat's numbers, by the library's contract.
-/
import Derived.Test.YteecbmhkfnlecaaGreatDoorShelf
import Derived.Shelf.Unicode.ValidAny
import Derived.Test.YteecbmhkfnlecaaGreatDoorProg
namespace Go.Proofs
open Go.Shelf

def Tryz.lays196_ren : Go.Shelf.Ren := ⟨fun | 196 => 43 | 259 => 66 | n => n, fun | 0 => 0 | 3 => 3 | 4 => 4 | 5 => 5 | 9 => 9 | 12 => 12 | 46 => 100 | 53 => 23 | 119 => 96 | 138 => 98 | 139 => 99 | n => n, fun | 3 => 0 | 4 => 1 | n => n⟩
theorem Tryz.lays196 : Go.Proofs.Lays.n196 Tryz.prog Tryz.lays196_ren := {
  mixed := by kernel_rfl
  f196 := Tryz.func43.trans (congrArg some (by kernel_rfl))
  f259 := Tryz.func66.trans (congrArg some (by kernel_rfl))
  t0 := Tryz.underlying0
  a0 := Tryz.isAgg0
  z0 := Tryz.sizeOf0
  v0 := Tryz.zeroValue0
  t3 := Tryz.underlying3
  a3 := Tryz.isAgg3
  z3 := Tryz.sizeOf3
  v3 := Tryz.zeroValue3
  t4 := Tryz.underlying4
  a4 := Tryz.isAgg4
  z4 := Tryz.sizeOf4
  v4 := Tryz.zeroValue4
  t5 := Tryz.underlying5
  a5 := Tryz.isAgg5
  z5 := Tryz.sizeOf5
  v5 := Tryz.zeroValue5
  t9 := Tryz.underlying9
  a9 := Tryz.isAgg9
  z9 := Tryz.sizeOf9
  v9 := Tryz.zeroValue9
  t12 := Tryz.underlying12
  a12 := Tryz.isAgg12
  z12 := Tryz.sizeOf12
  v12 := Tryz.zeroValue12
  t46 := Tryz.underlying100
  a46 := Tryz.isAgg100
  z46 := Tryz.sizeOf100
  v46 := Tryz.zeroValue100
  t53 := Tryz.underlying23
  a53 := Tryz.isAgg23
  z53 := Tryz.sizeOf23
  v53 := Tryz.zeroValue23
  t119 := Tryz.underlying96
  a119 := Tryz.isAgg96
  z119 := Tryz.sizeOf96
  t138 := Tryz.underlying98
  a138 := Tryz.isAgg98
  z138 := Tryz.sizeOf98
  v138 := Tryz.zeroValue98
  t139 := Tryz.underlying99
  a139 := Tryz.isAgg99
  z139 := Tryz.sizeOf99
  v139 := Tryz.zeroValue99
  g3 := by kernel_rfl
  g4 := by kernel_rfl }
open Go.RowKit Go.Lib in
theorem Tryz.utf8_ValidString (s : ByteArray) (w : World) (hs : s.size ≤ 9223372036854775807) (hT : Lib.Utf8Tabs 0 1 w) :
    Calls Tryz.prog 43 #[.string s] w fun e w' => e = .returned (.bool (Lib.validD s.data.toList)) ∧ Below w.heap.size w w' := Any.utf8_ValidString Tryz.lays196 s w hs hT
end Go.Proofs
