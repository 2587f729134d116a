import Derived.Shelf.Strings.Repeat
import Derived.Ground.Names2Prog
import Derived.Shelf.Slices.Delete
import Derived.Shelf.Slices.Cells
import Derived.Test.YbulkcijwProg
namespace Go.Proofs
open Go.Shelf
def Yba.lays105_ren : Go.Shelf.Ren := ⟨fun | 105 => 8 | 212 => 12 | 99 => 13 | 165 => 14 | 166 => 15 | 170 => 16 | 169 => 17 | 263 => 23 | 264 => 24 | 206 => 25 | 240 => 26 | 241 => 27 | 276 => 43 | 277 => 44 | n => n, fun | 9 => 9 | 3 => 3 | 4 => 4 | 20 => 20 | 0 => 0 | 46 => 71 | 109 => 72 | 5 => 5 | 72 => 77 | 76 => 80 | 51 => 28 | 146 => 85 | 53 => 43 | 148 => 87 | 70 => 75 | 37 => 56 | 75 => 79 | 127 => 89 | 164 => 92 | 80 => 83 | n => n, fun | n => n⟩
theorem Yba.lays105 : Go.Proofs.Lays.n105 Yba.prog Yba.lays105_ren := {
  mixed := by kernel_rfl
  f99 := Yba.func13.trans (congrArg some (by kernel_rfl))
  f105 := Yba.func8.trans (congrArg some (by kernel_rfl))
  f165 := Yba.func14.trans (congrArg some (by kernel_rfl))
  f166 := Yba.func15.trans (congrArg some (by kernel_rfl))
  f169 := Yba.func17.trans (congrArg some (by kernel_rfl))
  f170 := Yba.func16.trans (congrArg some (by kernel_rfl))
  f206 := Yba.func25.trans (congrArg some (by kernel_rfl))
  f212 := Yba.func12.trans (congrArg some (by kernel_rfl))
  f240 := Yba.func26.trans (congrArg some (by kernel_rfl))
  f241 := Yba.func27.trans (congrArg some (by kernel_rfl))
  f263 := Yba.func23.trans (congrArg some (by kernel_rfl))
  f264 := Yba.func24.trans (congrArg some (by kernel_rfl))
  f276 := Yba.func43.trans (congrArg some (by kernel_rfl))
  f277 := Yba.func44.trans (congrArg some (by kernel_rfl))
  t0 := Yba.underlying0
  a0 := Yba.isAgg0
  z0 := Yba.sizeOf0
  v0 := Yba.zeroValue0
  t3 := Yba.underlying3
  a3 := Yba.isAgg3
  z3 := Yba.sizeOf3
  v3 := Yba.zeroValue3
  t4 := Yba.underlying4
  a4 := Yba.isAgg4
  z4 := Yba.sizeOf4
  v4 := Yba.zeroValue4
  t5 := Yba.underlying5
  a5 := Yba.isAgg5
  z5 := Yba.sizeOf5
  v5 := Yba.zeroValue5
  t9 := Yba.underlying9
  a9 := Yba.isAgg9
  z9 := Yba.sizeOf9
  v9 := Yba.zeroValue9
  t20 := Yba.underlying20
  a20 := Yba.isAgg20
  z20 := Yba.sizeOf20
  v20 := Yba.zeroValue20
  t37 := Yba.underlying56
  a37 := Yba.isAgg56
  z37 := Yba.sizeOf56
  v37 := Yba.zeroValue56
  t46 := Yba.underlying71
  a46 := Yba.isAgg71
  z46 := Yba.sizeOf71
  v46 := Yba.zeroValue71
  t51 := Yba.underlying28
  a51 := Yba.isAgg28
  z51 := Yba.sizeOf28
  v51 := Yba.zeroValue28
  t53 := Yba.underlying43
  a53 := Yba.isAgg43
  z53 := Yba.sizeOf43
  v53 := Yba.zeroValue43
  t70 := Yba.underlying75
  a70 := Yba.isAgg75
  z70 := Yba.sizeOf75
  v70 := Yba.zeroValue75
  t72 := Yba.underlying77
  a72 := Yba.isAgg77
  z72 := Yba.sizeOf77
  v72 := Yba.zeroValue77
  t75 := Yba.underlying79
  a75 := Yba.isAgg79
  z75 := Yba.sizeOf79
  v75 := Yba.zeroValue79
  t76 := Yba.underlying80
  a76 := Yba.isAgg80
  z76 := Yba.sizeOf80
  v76 := Yba.zeroValue80
  t109 := Yba.underlying72
  a109 := Yba.isAgg72
  z109 := Yba.sizeOf72
  v109 := Yba.zeroValue72
  t127 := Yba.underlying89
  a127 := Yba.isAgg89
  z127 := Yba.sizeOf89
  v127 := Yba.zeroValue89
  t146 := Yba.underlying85
  a146 := Yba.isAgg85
  z146 := Yba.sizeOf85
  v146 := Yba.zeroValue85
  t148 := Yba.underlying87
  a148 := Yba.isAgg87
  z148 := Yba.sizeOf87
  v148 := Yba.zeroValue87
  t164 := Yba.underlying92
  a164 := Yba.isAgg92
  z164 := Yba.sizeOf92
  v164 := Yba.zeroValue92 }
theorem Yba.Builder_Extra_105 : Builder.Extra Yba.prog Yba.lays105_ren := {
  sizeBuilder := by kernel_rfl
  liesBuilder := by kernel_rfl
  t5 := Yba.underlying5
  a5 := Yba.isAgg5
  z5 := Yba.sizeOf5
  v5 := Yba.zeroValue5
  infoByte := by kernel_rfl
  cellsByte := by kernel_rfl
  sizeByte := by kernel_rfl
  neB5 := by decide }
open Go.RowKit Go.Lib in
theorem Yba.strings_Repeat (s : ByteArray) (c : Nat) (w : World) (hc : c ≤ 9223372036854775807) (hlen : s.size * c ≤ 140737488355328) :
    Calls Yba.prog 8 #[.string s, .int .i64 c] w fun e w' => e = .returned (.string ⟨(Lib.repeatL s.data.toList c).toArray⟩) ∧ Below w.heap.size w w' := Any.strings_Repeat Yba.lays105 Yba.Builder_Extra_105 s c w hc hlen
def Yba.laysNm223_ren : Go.Shelf.Ren := ⟨fun | 23 => 11 | n => n, fun | 22 => 65 | 3 => 3 | 4 => 4 | 0 => 0 | n => n, fun | n => n⟩
theorem Yba.laysNm223 : Go.Proofs.Lays2.n23 Yba.prog Yba.laysNm223_ren := {
  mixed := by kernel_rfl
  f23 := Yba.func11.trans (congrArg some (by kernel_rfl))
  t0 := Yba.underlying0
  a0 := Yba.isAgg0
  z0 := Yba.sizeOf0
  v0 := Yba.zeroValue0
  t3 := Yba.underlying3
  a3 := Yba.isAgg3
  z3 := Yba.sizeOf3
  v3 := Yba.zeroValue3
  t4 := Yba.underlying4
  a4 := Yba.isAgg4
  z4 := Yba.sizeOf4
  v4 := Yba.zeroValue4
  t22 := Yba.underlying65
  a22 := Yba.isAgg65
  z22 := Yba.sizeOf65
  v22 := Yba.zeroValue65
  i3 := by kernel_rfl }
open Go.RowKit Go.Lib Go.Sort in
theorem Yba.slices_Delete_int_cells (b off n c i j : Nat) (zs : List Int) (w : World) (hz : n ≤ zs.length) (hcap : n ≤ c) (hm : c ≤ 9223372036854775807) (hij : i ≤ j) (hj : j ≤ n) (hc : ∀ j, j < zs.length → w.cell? ⟨b, off + j, none⟩ = some (.int .i64 (zs.getD j 0))) (hf : ∀ j, j < n → w.frozen? ⟨b, off + j, none⟩ = false) :
    Calls Yba.prog 11 #[.slice (some ⟨b, off, none⟩) n c, .int .i64 i, .int .i64 j] w fun e w' => e = .returned (.slice (some ⟨b, off, none⟩) (n - (j - i)) c) ∧ ∃ q, w' = (w.drewN q).setCells b off (((zs.take n).take i ++ (zs.take n).drop j ++ List.replicate (j - i) 0).map (Value.int .i64)) := Any.slices_Delete_int_cells Yba.laysNm223 b off n c i j zs w hz hcap hm hij hj hc hf
end Go.Proofs
