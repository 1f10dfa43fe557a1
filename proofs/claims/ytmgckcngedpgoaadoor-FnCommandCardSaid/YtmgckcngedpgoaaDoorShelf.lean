/- unicode/utf8.DecodeRune at this seat's program: written by the kit's lay-shelf and lay-plain tools (C.D and G.D: numbers stand in it); below: the tables. -/
import Derived.Shelf.Spec.DecodeRune
import Derived.Lib.LaidU8T
import Derived.PinnedBridge
import Derived.Test.YtmgckcngedpgoaaDoorRows
namespace Go.Proofs
open Go.Shelf
def Door.lays7_32_ren : Go.Shelf.Ren := ⟨fun | 32 => 77 | 49 => 85 | n => n, fun | 30 => 24 | 21 => 21 | 3 => 3 | 0 => 0 | 5 => 5 | 4 => 4 | 33 => 117 | 66 => 154 | 25 => 27 | 69 => 157 | 68 => 156 | n => n, fun | 2 => 3 | 3 => 4 | n => n⟩
theorem Door.lays7_32 : Go.Proofs.Lays7.n32 Tryd.prog Door.lays7_32_ren := {
  mixed := by kernel_rfl
  f32 := Tryd.func77.trans (congrArg some (by kernel_rfl))
  f49 := Tryd.func85.trans (congrArg some (by kernel_rfl))
  t0 := Tryd.underlying0
  a0 := Tryd.isAgg0
  z0 := Tryd.sizeOf0
  v0 := Tryd.zeroValue0
  i0 := by kernel_rfl
  t3 := Tryd.underlying3
  a3 := Tryd.isAgg3
  z3 := Tryd.sizeOf3
  v3 := Tryd.zeroValue3
  i3 := by kernel_rfl
  t4 := Tryd.underlying4
  a4 := Tryd.isAgg4
  z4 := Tryd.sizeOf4
  v4 := Tryd.zeroValue4
  i4 := by kernel_rfl
  t5 := Tryd.underlying5
  a5 := Tryd.isAgg5
  z5 := Tryd.sizeOf5
  v5 := Tryd.zeroValue5
  i5 := by kernel_rfl
  t21 := Tryd.underlying21
  a21 := Tryd.isAgg21
  z21 := Tryd.sizeOf21
  v21 := Tryd.zeroValue21
  i21 := by kernel_rfl
  t25 := Tryd.underlying27
  a25 := Tryd.isAgg27
  z25 := Tryd.sizeOf27
  v25 := Tryd.zeroValue27
  i25 := by kernel_rfl
  t30 := Tryd.underlying24
  a30 := Tryd.isAgg24
  z30 := Tryd.sizeOf24
  v30 := Tryd.zeroValue24
  i30 := by kernel_rfl
  t33 := Tryd.underlying117
  a33 := Tryd.isAgg117
  z33 := Tryd.sizeOf117
  v33 := Tryd.zeroValue117
  i33 := by kernel_rfl
  t66 := Tryd.underlying154
  a66 := Tryd.isAgg154
  z66 := Tryd.sizeOf154
  t68 := Tryd.underlying156
  a68 := Tryd.isAgg156
  z68 := Tryd.sizeOf156
  v68 := Tryd.zeroValue156
  i68 := by kernel_rfl
  t69 := Tryd.underlying157
  a69 := Tryd.isAgg157
  z69 := Tryd.sizeOf157
  v69 := Tryd.zeroValue157
  i69 := by kernel_rfl
  g2 := by kernel_rfl
  g3 := by kernel_rfl }
def Door.u8ren : Go.Shelf.Ren := ⟨fun n => n, fun | 119 => 154 | 138 => 156 | 139 => 157 | n => n, fun | 3 => 3 | 4 => 4 | n => n⟩
theorem Door.u8types : U8Types Tryd.prog Door.u8ren := { t5 := Tryd.underlying5, t119 := Tryd.underlying154, t138 := Tryd.underlying156, t139 := Tryd.underlying157 }
theorem Door.u8extra : Go.Proofs.U8Extra Tryd.prog Door.u8ren := { n3 := by kernel_rfl, n4 := by kernel_rfl, y3 := by kernel_rfl, y4 := by kernel_rfl, c5 := by kernel_rfl, c119 := by kernel_rfl, c138 := by kernel_rfl }
end Go.Proofs
