/- unicode/utf8.DecodeRune at this seat's program: written by the kit's lay-shelf and lay-plain tools (C.D only: numbers stand in it); below: the tables. -/
import Derived.Shelf.Spec.DecodeRune
import Derived.Lib.LaidU8T
import Derived.PinnedBridge
import Derived.Test.YtnpdieepkhkbfaaDoorRows
namespace Go.Proofs
open Go.Shelf
def Door.lays7_32_ren : Go.Shelf.Ren := ⟨fun | 32 => 23 | 49 => 35 | n => n, fun | 30 => 22 | 21 => 21 | 3 => 3 | 0 => 0 | 5 => 5 | 4 => 4 | 33 => 41 | 66 => 66 | 25 => 40 | 69 => 69 | 68 => 68 | n => n, fun | 2 => 0 | 3 => 1 | n => n⟩
theorem Door.lays7_32 : Go.Proofs.Lays7.n32 Tryd.prog Door.lays7_32_ren := {
  mixed := by kernel_rfl
  f32 := Tryd.func23.trans (congrArg some (by kernel_rfl))
  f49 := Tryd.func35.trans (congrArg some (by kernel_rfl))
  t0 := Tryd.underlying0
  a0 := Tryd.isAgg0
  z0 := Tryd.sizeOf0
  v0 := Tryd.zeroValue0
  i0 := by kernel_rfl
  t3 := Tryd.underlying3
  a3 := Tryd.isAgg3
  z3 := Tryd.sizeOf3
  v3 := Tryd.zeroValue3
  i3 := by kernel_rfl
  t4 := Tryd.underlying4
  a4 := Tryd.isAgg4
  z4 := Tryd.sizeOf4
  v4 := Tryd.zeroValue4
  i4 := by kernel_rfl
  t5 := Tryd.underlying5
  a5 := Tryd.isAgg5
  z5 := Tryd.sizeOf5
  v5 := Tryd.zeroValue5
  i5 := by kernel_rfl
  t21 := Tryd.underlying21
  a21 := Tryd.isAgg21
  z21 := Tryd.sizeOf21
  v21 := Tryd.zeroValue21
  i21 := by kernel_rfl
  t25 := Tryd.underlying40
  a25 := Tryd.isAgg40
  z25 := Tryd.sizeOf40
  v25 := Tryd.zeroValue40
  i25 := by kernel_rfl
  t30 := Tryd.underlying22
  a30 := Tryd.isAgg22
  z30 := Tryd.sizeOf22
  v30 := Tryd.zeroValue22
  i30 := by kernel_rfl
  t33 := Tryd.underlying41
  a33 := Tryd.isAgg41
  z33 := Tryd.sizeOf41
  v33 := Tryd.zeroValue41
  i33 := by kernel_rfl
  t66 := Tryd.underlying66
  a66 := Tryd.isAgg66
  z66 := Tryd.sizeOf66
  t68 := Tryd.underlying68
  a68 := Tryd.isAgg68
  z68 := Tryd.sizeOf68
  v68 := Tryd.zeroValue68
  i68 := by kernel_rfl
  t69 := Tryd.underlying69
  a69 := Tryd.isAgg69
  z69 := Tryd.sizeOf69
  v69 := Tryd.zeroValue69
  i69 := by kernel_rfl
  g2 := by kernel_rfl
  g3 := by kernel_rfl }
def Door.u8ren : Go.Shelf.Ren := ⟨fun n => n, fun | 119 => 66 | 138 => 68 | 139 => 69 | n => n, fun | 3 => 0 | 4 => 1 | n => n⟩
theorem Door.u8types : U8Types Tryd.prog Door.u8ren := { t5 := Tryd.underlying5, t119 := Tryd.underlying66, t138 := Tryd.underlying68, t139 := Tryd.underlying69 }
theorem Door.u8extra : Go.Proofs.U8Extra Tryd.prog Door.u8ren := { n3 := by kernel_rfl, n4 := by kernel_rfl, y3 := by kernel_rfl, y4 := by kernel_rfl, c5 := by kernel_rfl, c119 := by kernel_rfl, c138 := by kernel_rfl }
theorem Door.tabs (w : World) (hL : laidMetH Tryd.prog YtnpdieepkhkbfaaDoor.Rows.fnCesuFirstRow.laid w) : Go.Lib.Utf8Tabs 0 1 w := by
  have h : laidMet Tryd.prog YtnpdieepkhkbfaaDoor.Rows.fnCesuFirstRow.laid w := hL
  obtain ⟨ps, hv, _⟩ := h
  have e1 : Pinned.utf8First = Go.Lib.firstData := Pinned.utf8First_eq
  have e2 : (YtnpdieepkhkbfaaDoor.Rows.laid_unicode_utf8_acceptRanges : DataW Unit) = Go.Lib.acceptData := by kernel_rfl
  have r1 := Go.Lib.LaidVars_reads hv "unicode/utf8.first" _ (List.mem_cons_of_mem _ (List.mem_cons_self))
  have r2 := Go.Lib.LaidVars_reads hv "unicode/utf8.acceptRanges" _ (List.mem_cons_self)
  exact utf8Tabs_of_readsT Door.u8types Door.u8extra (e1 ▸ r1) (e2 ▸ r2)
end Go.Proofs
