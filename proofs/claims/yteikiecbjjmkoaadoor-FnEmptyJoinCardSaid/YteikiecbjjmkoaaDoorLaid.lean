/- What the row's list gives: the library's tables read as start-up lays them. (The laying of utf8's types: by lay-plain.mjs.) -/
import Derived.Shelf.Unicode.DecodeSlow
import Derived.Lib.LaidU8
import Derived.Lib.LaidTab
import Derived.Test.YteikiecbjjmkoaaDoorTrim
import Derived.Test.YteikiecbjjmkoaaDoorRows
namespace Go.Proofs
open Go.Shelf
def Tryd.lays260_ren : Go.Shelf.Ren := ⟨fun | 260 => 74 | n => n, fun | 9 => 9 | 21 => 21 | 3 => 3 | 4 => 4 | 5 => 5 | 119 => 61 | 0 => 0 | 46 => 80 | 139 => 85 | 138 => 84 | n => n, fun | 3 => 2 | 4 => 3 | n => n⟩
theorem Tryd.lays260 : Go.Proofs.Lays.n260 Tryd.prog Tryd.lays260_ren := {
  mixed := by kernel_rfl
  f260 := Tryd.func74.trans (congrArg some (by kernel_rfl))
  t0 := Tryd.underlying0
  a0 := Tryd.isAgg0
  z0 := Tryd.sizeOf0
  v0 := Tryd.zeroValue0
  t3 := Tryd.underlying3
  a3 := Tryd.isAgg3
  z3 := Tryd.sizeOf3
  v3 := Tryd.zeroValue3
  t4 := Tryd.underlying4
  a4 := Tryd.isAgg4
  z4 := Tryd.sizeOf4
  v4 := Tryd.zeroValue4
  t5 := Tryd.underlying5
  a5 := Tryd.isAgg5
  z5 := Tryd.sizeOf5
  v5 := Tryd.zeroValue5
  t9 := Tryd.underlying9
  a9 := Tryd.isAgg9
  z9 := Tryd.sizeOf9
  v9 := Tryd.zeroValue9
  t21 := Tryd.underlying21
  a21 := Tryd.isAgg21
  z21 := Tryd.sizeOf21
  v21 := Tryd.zeroValue21
  t46 := Tryd.underlying80
  a46 := Tryd.isAgg80
  z46 := Tryd.sizeOf80
  v46 := Tryd.zeroValue80
  t119 := Tryd.underlying61
  a119 := Tryd.isAgg61
  z119 := Tryd.sizeOf61
  t138 := Tryd.underlying84
  a138 := Tryd.isAgg84
  z138 := Tryd.sizeOf84
  v138 := Tryd.zeroValue84
  t139 := Tryd.underlying85
  a139 := Tryd.isAgg85
  z139 := Tryd.sizeOf85
  v139 := Tryd.zeroValue85
  g3 := by kernel_rfl
  g4 := by kernel_rfl }
end Go.Proofs
namespace Go.Proofs.YteikiecbjjmkoaaDoor
open Go.RowKit Go.Proofs Go.Lib

theorem x8 : U8Extra Tryd.prog Tryd.lays260_ren := { n3 := by kernel_rfl, n4 := by kernel_rfl, y3 := by kernel_rfl, y4 := by kernel_rfl, c5 := by kernel_rfl, c119 := by kernel_rfl, c138 := by kernel_rfl }
theorem xw : WhiteExtra Tryd.prog Tryd.lays199_ren := { n6 := by kernel_rfl, y6 := by kernel_rfl, c3 := by kernel_rfl, c49 := by kernel_rfl, c193 := by kernel_rfl, c194 := by kernel_rfl, c196 := by kernel_rfl, c198 := by kernel_rfl }
theorem eFirst : Rows.laid_unicode_utf8_first = firstData := by kernel_rfl
theorem eAccept : (Rows.laid_unicode_utf8_acceptRanges : DataW Unit) = acceptData := by kernel_rfl
theorem eWhite : (Rows.laid_unicode_White_Space : DataW Unit) = whiteData := by kernel_rfl
theorem eSpace : (Rows.laid_bytes_asciiSpace : DataW Unit) = tabData .u8 asciiSpaceTab := by kernel_rfl
theorem gSpace : Tryd.prog.globalNamed "bytes.asciiSpace" = some 0 := by kernel_rfl
theorem gSpaceType : (Tryd.prog.globals[0]?).map (·.type) = some 61 := by kernel_rfl
theorem cells61 : Tryd.prog.cellsOf 61 = 256 := by kernel_rfl
theorem cells5 : Tryd.prog.cellsOf 5 = 1 := by kernel_rfl

/-- WHAT THE ROW's LIST GIVES. -/
theorem tabs {W : World} (h : laidMet Tryd.prog Rows.fnEmptyJoinRow.laid W) : Tabs W := by
  have hF := laidMet.reads h (List.Mem.tail _ (List.Mem.tail _ (List.Mem.tail _ (List.Mem.head _))))
  have hA := laidMet.reads h (List.Mem.head _)
  have hWh := laidMet.reads h (List.Mem.tail _ (List.Mem.head _))
  have hS := laidMet.reads h (List.Mem.tail _ (List.Mem.tail _ (List.Mem.head _)))
  rw [eFirst] at hF
  rw [eAccept] at hA
  rw [eWhite] at hWh
  rw [eSpace] at hS
  refine ⟨fun q hq => ?_, whiteTab_of_reads Tryd.lays199 xw hWh, utf8Tabs_of_reads Tryd.lays260 x8 hF hA⟩
  obtain ⟨g, t, cs, fuel, p, hg, hty, hvar, hd⟩ := hS
  obtain rfl := Option.some.inj (gSpace.symm.trans hg)
  obtain rfl := Option.some.inj (gSpaceType.symm.trans hty)
  have hcs := cells_of_tab Tryd.underlying61 Tryd.underlying5 cells5 cells61 hd
  rw [World.var?_cell hg hvar q, ← Array.getElem?_toList, hcs]
  simp only [List.getElem?_map]
  rw [show asciiSpaceTab[q]? = some (asciiSpaceTab.getD q 0) by
    have : q < asciiSpaceTab.length := by rw [asciiSpaceTab_length]; exact hq
    simp [List.getD_eq_getElem?_getD, this]]
  rw [asciiSpaceTab_at q hq]
  rfl

end Go.Proofs.YteikiecbjjmkoaaDoor
