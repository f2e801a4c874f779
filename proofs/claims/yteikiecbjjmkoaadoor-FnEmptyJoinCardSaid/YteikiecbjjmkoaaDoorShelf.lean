/- unicode.IsSpace and bytes.TrimFunc at this program, laid from the shelf in plain words (written by lay-plain.mjs). -/
import Derived.Shelf.Unicode.IsSpaceAny
import Derived.Shelf.Spec.BytesTrimFunc
import Derived.Test.YteikiecbjjmkoaaDoorProg
namespace Go.Proofs
open Go.Shelf
def Tryd.lays199_ren : Go.Shelf.Ren := ⟨fun | 199 => 13 | 261 => 16 | 311 => 20 | 312 => 21 | n => n, fun | 21 => 21 | 4 => 4 | 51 => 62 | 141 => 64 | 0 => 0 | 196 => 71 | 193 => 68 | 3 => 3 | 198 => 74 | 49 => 72 | 194 => 69 | 201 => 77 | 226 => 79 | 46 => 80 | 227 => 81 | n => n, fun | 6 => 1 | n => n⟩
theorem Tryd.lays199 : Go.Proofs.Lays.n199 Tryd.prog Tryd.lays199_ren := {
  mixed := by kernel_rfl
  f199 := Tryd.func13.trans (congrArg some (by kernel_rfl))
  f261 := Tryd.func16.trans (congrArg some (by kernel_rfl))
  f311 := Tryd.func20.trans (congrArg some (by kernel_rfl))
  f312 := Tryd.func21.trans (congrArg some (by kernel_rfl))
  t0 := Tryd.underlying0
  a0 := Tryd.isAgg0
  z0 := Tryd.sizeOf0
  v0 := Tryd.zeroValue0
  t3 := Tryd.underlying3
  a3 := Tryd.isAgg3
  z3 := Tryd.sizeOf3
  v3 := Tryd.zeroValue3
  t4 := Tryd.underlying4
  a4 := Tryd.isAgg4
  z4 := Tryd.sizeOf4
  v4 := Tryd.zeroValue4
  t21 := Tryd.underlying21
  a21 := Tryd.isAgg21
  z21 := Tryd.sizeOf21
  v21 := Tryd.zeroValue21
  t46 := Tryd.underlying80
  a46 := Tryd.isAgg80
  z46 := Tryd.sizeOf80
  v46 := Tryd.zeroValue80
  t49 := Tryd.underlying72
  a49 := Tryd.isAgg72
  z49 := Tryd.sizeOf72
  v49 := Tryd.zeroValue72
  t51 := Tryd.underlying62
  a51 := Tryd.isAgg62
  z51 := Tryd.sizeOf62
  v51 := Tryd.zeroValue62
  t141 := Tryd.underlying64
  a141 := Tryd.isAgg64
  z141 := Tryd.sizeOf64
  v141 := Tryd.zeroValue64
  t193 := Tryd.underlying68
  a193 := Tryd.isAgg68
  z193 := Tryd.sizeOf68
  v193 := Tryd.zeroValue68
  t194 := Tryd.underlying69
  a194 := Tryd.isAgg69
  z194 := Tryd.sizeOf69
  v194 := Tryd.zeroValue69
  t196 := Tryd.underlying71
  a196 := Tryd.isAgg71
  z196 := Tryd.sizeOf71
  v196 := Tryd.zeroValue71
  t198 := Tryd.underlying74
  a198 := Tryd.isAgg74
  z198 := Tryd.sizeOf74
  v198 := Tryd.zeroValue74
  t201 := Tryd.underlying77
  a201 := Tryd.isAgg77
  z201 := Tryd.sizeOf77
  v201 := Tryd.zeroValue77
  t226 := Tryd.underlying79
  a226 := Tryd.isAgg79
  z226 := Tryd.sizeOf79
  v226 := Tryd.zeroValue79
  t227 := Tryd.underlying81
  a227 := Tryd.isAgg81
  z227 := Tryd.sizeOf81
  v227 := Tryd.zeroValue81
  g6 := by kernel_rfl }
open Go.RowKit Go.Lib in
theorem Tryd.unicode_IsSpace_any (r : Int) (w : World) (hlo : -2147483648 ≤ r) (hhi : r ≤ 2147483647) (hW : Lib.WhiteTab 1 w) :
    Calls Tryd.prog 13 #[.int .i32 r] w fun e w' => e = .returned (.bool (Lib.isSpaceZ r)) ∧ Below w.heap.size w w' := Any.unicode_IsSpace_any Tryd.lays199 r w hlo hhi hW
def Tryd.lays7x42_ren : Go.Shelf.Ren := ⟨fun | 42 => 12 | 43 => 15 | 44 => 14 | 55 => 19 | 56 => 17 | 32 => 18 | 33 => 22 | 49 => 23 | 50 => 24 | n => n, fun | 30 => 39 | 48 => 60 | 4 => 4 | 3 => 3 | 0 => 0 | 5 => 5 | 33 => 66 | 21 => 21 | 66 => 61 | 25 => 80 | 69 => 85 | 68 => 84 | n => n, fun | 2 => 2 | 3 => 3 | n => n⟩
theorem Tryd.lays7x42 : Go.Proofs.Lays7.n42 Tryd.prog Tryd.lays7x42_ren := {
  mixed := by kernel_rfl
  f32 := Tryd.func18.trans (congrArg some (by kernel_rfl))
  f33 := Tryd.func22.trans (congrArg some (by kernel_rfl))
  f42 := Tryd.func12.trans (congrArg some (by kernel_rfl))
  f43 := Tryd.func15.trans (congrArg some (by kernel_rfl))
  f44 := Tryd.func14.trans (congrArg some (by kernel_rfl))
  f49 := Tryd.func23.trans (congrArg some (by kernel_rfl))
  f50 := Tryd.func24.trans (congrArg some (by kernel_rfl))
  f55 := Tryd.func19.trans (congrArg some (by kernel_rfl))
  f56 := Tryd.func17.trans (congrArg some (by kernel_rfl))
  t0 := Tryd.underlying0
  a0 := Tryd.isAgg0
  z0 := Tryd.sizeOf0
  v0 := Tryd.zeroValue0
  i0 := by kernel_rfl
  t3 := Tryd.underlying3
  a3 := Tryd.isAgg3
  z3 := Tryd.sizeOf3
  v3 := Tryd.zeroValue3
  i3 := by kernel_rfl
  t4 := Tryd.underlying4
  a4 := Tryd.isAgg4
  z4 := Tryd.sizeOf4
  v4 := Tryd.zeroValue4
  i4 := by kernel_rfl
  t5 := Tryd.underlying5
  a5 := Tryd.isAgg5
  z5 := Tryd.sizeOf5
  v5 := Tryd.zeroValue5
  i5 := by kernel_rfl
  t21 := Tryd.underlying21
  a21 := Tryd.isAgg21
  z21 := Tryd.sizeOf21
  v21 := Tryd.zeroValue21
  i21 := by kernel_rfl
  t25 := Tryd.underlying80
  a25 := Tryd.isAgg80
  z25 := Tryd.sizeOf80
  v25 := Tryd.zeroValue80
  i25 := by kernel_rfl
  t30 := Tryd.underlying39
  a30 := Tryd.isAgg39
  z30 := Tryd.sizeOf39
  v30 := Tryd.zeroValue39
  i30 := by kernel_rfl
  t33 := Tryd.underlying66
  a33 := Tryd.isAgg66
  z33 := Tryd.sizeOf66
  v33 := Tryd.zeroValue66
  i33 := by kernel_rfl
  t48 := Tryd.underlying60
  a48 := Tryd.isAgg60
  z48 := Tryd.sizeOf60
  v48 := Tryd.zeroValue60
  i48 := by kernel_rfl
  t66 := Tryd.underlying61
  a66 := Tryd.isAgg61
  z66 := Tryd.sizeOf61
  t68 := Tryd.underlying84
  a68 := Tryd.isAgg84
  z68 := Tryd.sizeOf84
  v68 := Tryd.zeroValue84
  i68 := by kernel_rfl
  t69 := Tryd.underlying85
  a69 := Tryd.isAgg85
  z69 := Tryd.sizeOf85
  v69 := Tryd.zeroValue85
  i69 := by kernel_rfl
  g2 := by kernel_rfl
  g3 := by kernel_rfl }
open Go.RowKit Go.Lib in
theorem Tryd.bytes_TrimFunc (g : Nat) (lb : Array Value) (eg : ∀ args w, (callFunc g args).run Tryd.prog w = .ok (.enter g args) w) (p : Nat → Bool) (s : ByteArray) (b off cap : Nat) (w : World)
    (hcap : s.size ≤ cap) (hs : s.size ≤ 9223372036854775807) (hB : BytesAt s b off w) (hT : Lib.Utf8Tabs 2 3 w) (hp : PredGrows Tryd.prog g lb p w) :
    Calls Tryd.prog 12 #[.slice (some ⟨b, off, none⟩) s.size cap, .func (.func g) #[] lb] w fun e w' => e = .returned (trimCut p s b off cap) ∧ Below w.heap.size w w' := Any7.bytes_TrimFunc Tryd.lays7x42 g lb eg p s b off cap w hcap hs hB hT hp
end Go.Proofs
