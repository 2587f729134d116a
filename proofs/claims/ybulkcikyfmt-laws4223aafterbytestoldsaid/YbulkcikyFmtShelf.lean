/- strings.Builder's contracts of the shelf at this dump (lay-shelf.mjs, lay-plain.mjs; WriteString's laying typed by hand after them: the tool could not name two types that no body names). -/
import Derived.Shelf.Strings.Builder1
import Derived.Shelf.Strings.Builder2
import Derived.Shelf.Strings.BuilderF
import Derived.Shelf.Strings.BuilderK
import Derived.Test.YbulkcikyFmtProg
namespace Go.Proofs
open Go.Shelf Go.RowKit
def Ybaf.lays170_ren : Go.Shelf.Ren := ⟨fun | 170 => 16 | n => n, fun | 70 => 39 | 3 => 3 | 0 => 0 | 72 => 42 | 37 => 40 | 5 => 5 | n => n, fun | n => n⟩
theorem Ybaf.lays170 : Go.Proofs.Lays.n170 Ybaf.prog Ybaf.lays170_ren := {
  mixed := by kernel_rfl
  f170 := Ybaf.func16.trans (congrArg some (by kernel_rfl))
  t0 := Ybaf.underlying0
  a0 := Ybaf.isAgg0
  z0 := Ybaf.sizeOf0
  v0 := Ybaf.zeroValue0
  t3 := Ybaf.underlying3
  a3 := Ybaf.isAgg3
  z3 := Ybaf.sizeOf3
  v3 := Ybaf.zeroValue3
  t37 := Ybaf.underlying40
  a37 := Ybaf.isAgg40
  z37 := Ybaf.sizeOf40
  v37 := Ybaf.zeroValue40
  t70 := Ybaf.underlying39
  a70 := Ybaf.isAgg39
  z70 := Ybaf.sizeOf39
  v70 := Ybaf.zeroValue39
  t72 := Ybaf.underlying42
  a72 := Ybaf.isAgg42
  z72 := Ybaf.sizeOf42
  v72 := Ybaf.zeroValue42 }
def Ybaf.lays169_ren : Go.Shelf.Ren := ⟨fun | 169 => 11 | n => n, fun | 70 => 39 | 9 => 9 | 0 => 0 | 72 => 42 | 37 => 40 | 127 => 59 | 3 => 3 | 5 => 5 | n => n, fun | n => n⟩
theorem Ybaf.lays169 : Go.Proofs.Lays.n169 Ybaf.prog Ybaf.lays169_ren := {
  mixed := by kernel_rfl
  f169 := Ybaf.func11.trans (congrArg some (by kernel_rfl))
  t0 := Ybaf.underlying0
  a0 := Ybaf.isAgg0
  z0 := Ybaf.sizeOf0
  v0 := Ybaf.zeroValue0
  t3 := Ybaf.underlying3
  a3 := Ybaf.isAgg3
  z3 := Ybaf.sizeOf3
  v3 := Ybaf.zeroValue3
  t9 := Ybaf.underlying9
  a9 := Ybaf.isAgg9
  z9 := Ybaf.sizeOf9
  v9 := Ybaf.zeroValue9
  t37 := Ybaf.underlying40
  a37 := Ybaf.isAgg40
  z37 := Ybaf.sizeOf40
  v37 := Ybaf.zeroValue40
  t70 := Ybaf.underlying39
  a70 := Ybaf.isAgg39
  z70 := Ybaf.sizeOf39
  v70 := Ybaf.zeroValue39
  t72 := Ybaf.underlying42
  a72 := Ybaf.isAgg42
  z72 := Ybaf.sizeOf42
  v72 := Ybaf.zeroValue42
  t127 := Ybaf.underlying59
  a127 := Ybaf.isAgg59
  z127 := Ybaf.sizeOf59
  v127 := Ybaf.zeroValue59 }
theorem Ybaf.Builder_Extra_169 : Builder.Extra Ybaf.prog Ybaf.lays169_ren := {
  sizeBuilder := by kernel_rfl
  liesBuilder := by kernel_rfl
  t5 := Ybaf.underlying5
  a5 := Ybaf.isAgg5
  z5 := Ybaf.sizeOf5
  v5 := Ybaf.zeroValue5
  infoByte := by kernel_rfl
  cellsByte := by kernel_rfl
  sizeByte := by kernel_rfl
  neB5 := by decide }
def Ybaf.lays165_ren : Go.Shelf.Ren := ⟨fun | 165 => 9 | 240 => 14 | 241 => 15 | 276 => 19 | 277 => 20 | n => n, fun | 70 => 39 | 3 => 3 | 0 => 0 | 4 => 4 | 9 => 9 | 20 => 20 | 72 => 42 | 37 => 40 | 164 => 27 | 5 => 5 | n => n, fun | n => n⟩
theorem Ybaf.lays165 : Go.Proofs.Lays.n165 Ybaf.prog Ybaf.lays165_ren := {
  mixed := by kernel_rfl
  f165 := Ybaf.func9.trans (congrArg some (by kernel_rfl))
  f240 := Ybaf.func14.trans (congrArg some (by kernel_rfl))
  f241 := Ybaf.func15.trans (congrArg some (by kernel_rfl))
  f276 := Ybaf.func19.trans (congrArg some (by kernel_rfl))
  f277 := Ybaf.func20.trans (congrArg some (by kernel_rfl))
  t0 := Ybaf.underlying0
  a0 := Ybaf.isAgg0
  z0 := Ybaf.sizeOf0
  v0 := Ybaf.zeroValue0
  t3 := Ybaf.underlying3
  a3 := Ybaf.isAgg3
  z3 := Ybaf.sizeOf3
  v3 := Ybaf.zeroValue3
  t4 := Ybaf.underlying4
  a4 := Ybaf.isAgg4
  z4 := Ybaf.sizeOf4
  v4 := Ybaf.zeroValue4
  t9 := Ybaf.underlying9
  a9 := Ybaf.isAgg9
  z9 := Ybaf.sizeOf9
  v9 := Ybaf.zeroValue9
  t20 := Ybaf.underlying20
  a20 := Ybaf.isAgg20
  z20 := Ybaf.sizeOf20
  v20 := Ybaf.zeroValue20
  t37 := Ybaf.underlying40
  a37 := Ybaf.isAgg40
  z37 := Ybaf.sizeOf40
  v37 := Ybaf.zeroValue40
  t70 := Ybaf.underlying39
  a70 := Ybaf.isAgg39
  z70 := Ybaf.sizeOf39
  v70 := Ybaf.zeroValue39
  t72 := Ybaf.underlying42
  a72 := Ybaf.isAgg42
  z72 := Ybaf.sizeOf42
  v72 := Ybaf.zeroValue42
  t164 := Ybaf.underlying27
  a164 := Ybaf.isAgg27
  z164 := Ybaf.sizeOf27
  v164 := Ybaf.zeroValue27 }
theorem Ybaf.Builder_Extra_165 : Builder.Extra Ybaf.prog Ybaf.lays165_ren := {
  sizeBuilder := by kernel_rfl
  liesBuilder := by kernel_rfl
  t5 := Ybaf.underlying5
  a5 := Ybaf.isAgg5
  z5 := Ybaf.sizeOf5
  v5 := Ybaf.zeroValue5
  infoByte := by kernel_rfl
  cellsByte := by kernel_rfl
  sizeByte := by kernel_rfl
  neB5 := by decide }
theorem Ybaf.Builder_Grow_fresh (B b n : Nat) (w : World) (hB : B ≤ b) (hbk : w.heap[b]? = some (.cells #[.pointer none, .slice none 0 0] 42 (0, 0))) (hBw : B ≤ w.heap.size) (hn : n ≤ 281474976710656) :
    Calls Ybaf.prog 9 #[.pointer (some ⟨b, 0, none⟩), .int .i64 n] w fun e w' => e = .returned (.tuple #[]) ∧ (Lib.BuilderAt 42 5 B b (.pointer (some ⟨b, 0, none⟩)) [] w' ∧ Below B w w') := Any.Builder_Grow_fresh Ybaf.lays165 Ybaf.Builder_Extra_165 B b n w hB hbk hBw hn
theorem Ybaf.Builder_Len_f (B b : Nat) (bs : List Value) (w : World) (h : Lib.IsBuilderF 42 5 B b bs w) :
    Calls Ybaf.prog 16 #[.pointer (some ⟨b, 0, none⟩)] w fun e w' => e = .returned (.int .i64 bs.length) ∧ w' = w := Any.Builder_Len_f Ybaf.lays170 B b bs w h
def Ybaf.lays166_ren : Go.Shelf.Ren := ⟨fun | 166 => 17 | 240 => 14 | 276 => 19 | n => n, fun | 70 => 39 | 3 => 3 | 0 => 0 | 4 => 4 | 9 => 9 | 20 => 20 | 72 => 42 | 37 => 40 | 75 => 56 | 80 => 35 | 164 => 27 | 5 => 5 | n => n, fun | n => n⟩
theorem Ybaf.lays166 : Go.Proofs.Lays.n166 Ybaf.prog Ybaf.lays166_ren := {
  mixed := by kernel_rfl
  f166 := Ybaf.func17.trans (congrArg some (by kernel_rfl))
  f240 := Ybaf.func14.trans (congrArg some (by kernel_rfl))
  f276 := Ybaf.func19.trans (congrArg some (by kernel_rfl))
  t0 := Ybaf.underlying0
  a0 := Ybaf.isAgg0
  z0 := Ybaf.sizeOf0
  v0 := Ybaf.zeroValue0
  t3 := Ybaf.underlying3
  a3 := Ybaf.isAgg3
  z3 := Ybaf.sizeOf3
  v3 := Ybaf.zeroValue3
  t4 := Ybaf.underlying4
  a4 := Ybaf.isAgg4
  z4 := Ybaf.sizeOf4
  v4 := Ybaf.zeroValue4
  t9 := Ybaf.underlying9
  a9 := Ybaf.isAgg9
  z9 := Ybaf.sizeOf9
  v9 := Ybaf.zeroValue9
  t20 := Ybaf.underlying20
  a20 := Ybaf.isAgg20
  z20 := Ybaf.sizeOf20
  v20 := Ybaf.zeroValue20
  t37 := Ybaf.underlying40
  a37 := Ybaf.isAgg40
  z37 := Ybaf.sizeOf40
  v37 := Ybaf.zeroValue40
  t70 := Ybaf.underlying39
  a70 := Ybaf.isAgg39
  z70 := Ybaf.sizeOf39
  v70 := Ybaf.zeroValue39
  t72 := Ybaf.underlying42
  a72 := Ybaf.isAgg42
  z72 := Ybaf.sizeOf42
  v72 := Ybaf.zeroValue42
  t75 := Ybaf.underlying56
  a75 := Ybaf.isAgg56
  z75 := Ybaf.sizeOf56
  v75 := Ybaf.zeroValue56
  t164 := Ybaf.underlying27
  a164 := Ybaf.isAgg27
  z164 := Ybaf.sizeOf27
  v164 := Ybaf.zeroValue27 }
theorem Ybaf.Builder_Extra_166 : Builder.Extra Ybaf.prog Ybaf.lays166_ren := {
  sizeBuilder := by kernel_rfl
  liesBuilder := by kernel_rfl
  t5 := Ybaf.underlying5
  a5 := Ybaf.isAgg5
  z5 := Ybaf.sizeOf5
  v5 := Ybaf.zeroValue5
  infoByte := by kernel_rfl
  cellsByte := by kernel_rfl
  sizeByte := by kernel_rfl
  neB5 := by decide }
theorem Ybaf.Builder_WriteString_k (B b : Nat) (bs : List Value) (s : ByteArray) (w : World) (h : Lib.IsBuilderF 42 5 B b bs w) (hlen : bs.length + s.size ≤ 140737488355328) (hBw : B ≤ w.heap.size) :
    Calls Ybaf.prog 17 #[.pointer (some ⟨b, 0, none⟩), .string s] w fun e w' => e = .returned (.tuple #[.int .i64 s.size, .nilIface]) ∧ (Lib.BuilderAtF 42 5 B b (.pointer (some ⟨b, 0, none⟩)) (bs ++ Lib.strCells s) w' ∧ Below B w w' ∧ Lib.OthersKept 5 (some b) w w') := Any.Builder_WriteString_k Ybaf.lays166 Ybaf.Builder_Extra_166 B b bs s w h hlen hBw
theorem Ybaf.Builder_String_k (B b : Nat) (l : List UInt8) (w : World) (h : Lib.IsBuilderF 42 5 B b (Lib.byteCells l) w) (h0 : l ≠ []) :
    Calls Ybaf.prog 11 #[.pointer (some ⟨b, 0, none⟩)] w fun e w' => e = .returned (.string ⟨l.toArray⟩) ∧ (Lib.IsBuilderF 42 5 B b (Lib.byteCells l) w' ∧ Below B w w' ∧ Lib.OthersKept 5 (some b) w w') := Any.Builder_String_k Ybaf.lays169 Ybaf.Builder_Extra_169 B b l w h h0
end Go.Proofs
