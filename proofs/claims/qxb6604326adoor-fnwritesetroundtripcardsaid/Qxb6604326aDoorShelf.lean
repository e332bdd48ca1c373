/- strings.Builder: WriteString, WriteByte, String at this dump: the shelf contracts, laid in plain words by hand after the kit tool lay-plain.mjs (that tool could not find two of the numbers, types that no body of the closure names). -/
import Derived.Shelf.Strings.BuilderK
import Derived.Test.Qxb6604326aDoorProg
namespace Go.Proofs
open Go.Shelf
def Tryd.laysB_ren : Go.Shelf.Ren := ⟨fun | 166 => 10 | 167 => 15 | 169 => 12 | 240 => 14 | 276 => 17 | n => n, fun | 0 => 0 | 3 => 3 | 4 => 4 | 5 => 5 | 9 => 9 | 20 => 20 | 37 => 37 | 70 => 36 | 72 => 39 | 75 => 41 | 76 => 42 | 80 => 45 | 127 => 50 | 164 => 51 | n => n, fun | n => n⟩
theorem Tryd.lays166 : Go.Proofs.Lays.n166 Tryd.prog Tryd.laysB_ren := {
  mixed := by kernel_rfl
  f166 := Tryd.func10.trans (congrArg some (by kernel_rfl))
  f240 := Tryd.func14.trans (congrArg some (by kernel_rfl))
  f276 := Tryd.func17.trans (congrArg some (by kernel_rfl))
  t0 := Tryd.underlying0
  a0 := Tryd.isAgg0
  z0 := Tryd.sizeOf0
  v0 := Tryd.zeroValue0
  t3 := Tryd.underlying3
  a3 := Tryd.isAgg3
  z3 := Tryd.sizeOf3
  v3 := Tryd.zeroValue3
  t4 := Tryd.underlying4
  a4 := Tryd.isAgg4
  z4 := Tryd.sizeOf4
  v4 := Tryd.zeroValue4
  t9 := Tryd.underlying9
  a9 := Tryd.isAgg9
  z9 := Tryd.sizeOf9
  v9 := Tryd.zeroValue9
  t20 := Tryd.underlying20
  a20 := Tryd.isAgg20
  z20 := Tryd.sizeOf20
  v20 := Tryd.zeroValue20
  t37 := Tryd.underlying37
  a37 := Tryd.isAgg37
  z37 := Tryd.sizeOf37
  v37 := Tryd.zeroValue37
  t70 := Tryd.underlying36
  a70 := Tryd.isAgg36
  z70 := Tryd.sizeOf36
  v70 := Tryd.zeroValue36
  t72 := Tryd.underlying39
  a72 := Tryd.isAgg39
  z72 := Tryd.sizeOf39
  v72 := Tryd.zeroValue39
  t75 := Tryd.underlying41
  a75 := Tryd.isAgg41
  z75 := Tryd.sizeOf41
  v75 := Tryd.zeroValue41
  t164 := Tryd.underlying51
  a164 := Tryd.isAgg51
  z164 := Tryd.sizeOf51
  v164 := Tryd.zeroValue51 }
theorem Tryd.lays167 : Go.Proofs.Lays.n167 Tryd.prog Tryd.laysB_ren := {
  mixed := by kernel_rfl
  f167 := Tryd.func15.trans (congrArg some (by kernel_rfl))
  f240 := Tryd.func14.trans (congrArg some (by kernel_rfl))
  f276 := Tryd.func17.trans (congrArg some (by kernel_rfl))
  t0 := Tryd.underlying0
  a0 := Tryd.isAgg0
  z0 := Tryd.sizeOf0
  v0 := Tryd.zeroValue0
  t4 := Tryd.underlying4
  a4 := Tryd.isAgg4
  z4 := Tryd.sizeOf4
  v4 := Tryd.zeroValue4
  t5 := Tryd.underlying5
  a5 := Tryd.isAgg5
  z5 := Tryd.sizeOf5
  v5 := Tryd.zeroValue5
  t9 := Tryd.underlying9
  a9 := Tryd.isAgg9
  z9 := Tryd.sizeOf9
  v9 := Tryd.zeroValue9
  t20 := Tryd.underlying20
  a20 := Tryd.isAgg20
  z20 := Tryd.sizeOf20
  v20 := Tryd.zeroValue20
  t37 := Tryd.underlying37
  a37 := Tryd.isAgg37
  z37 := Tryd.sizeOf37
  v37 := Tryd.zeroValue37
  t70 := Tryd.underlying36
  a70 := Tryd.isAgg36
  z70 := Tryd.sizeOf36
  v70 := Tryd.zeroValue36
  t72 := Tryd.underlying39
  a72 := Tryd.isAgg39
  z72 := Tryd.sizeOf39
  v72 := Tryd.zeroValue39
  t75 := Tryd.underlying41
  a75 := Tryd.isAgg41
  z75 := Tryd.sizeOf41
  v75 := Tryd.zeroValue41
  t164 := Tryd.underlying51
  a164 := Tryd.isAgg51
  z164 := Tryd.sizeOf51
  v164 := Tryd.zeroValue51 }
theorem Tryd.lays169 : Go.Proofs.Lays.n169 Tryd.prog Tryd.laysB_ren := {
  mixed := by kernel_rfl
  f169 := Tryd.func12.trans (congrArg some (by kernel_rfl))
  t0 := Tryd.underlying0
  a0 := Tryd.isAgg0
  z0 := Tryd.sizeOf0
  v0 := Tryd.zeroValue0
  t3 := Tryd.underlying3
  a3 := Tryd.isAgg3
  z3 := Tryd.sizeOf3
  v3 := Tryd.zeroValue3
  t9 := Tryd.underlying9
  a9 := Tryd.isAgg9
  z9 := Tryd.sizeOf9
  v9 := Tryd.zeroValue9
  t37 := Tryd.underlying37
  a37 := Tryd.isAgg37
  z37 := Tryd.sizeOf37
  v37 := Tryd.zeroValue37
  t70 := Tryd.underlying36
  a70 := Tryd.isAgg36
  z70 := Tryd.sizeOf36
  v70 := Tryd.zeroValue36
  t72 := Tryd.underlying39
  a72 := Tryd.isAgg39
  z72 := Tryd.sizeOf39
  v72 := Tryd.zeroValue39
  t127 := Tryd.underlying50
  a127 := Tryd.isAgg50
  z127 := Tryd.sizeOf50
  v127 := Tryd.zeroValue50 }
theorem Tryd.Builder_Extra_B : Builder.Extra Tryd.prog Tryd.laysB_ren := {
  sizeBuilder := by kernel_rfl
  liesBuilder := by kernel_rfl
  t5 := Tryd.underlying5
  a5 := Tryd.isAgg5
  z5 := Tryd.sizeOf5
  v5 := Tryd.zeroValue5
  infoByte := by kernel_rfl
  cellsByte := by kernel_rfl
  sizeByte := by kernel_rfl
  neB5 := by decide }
open Go.RowKit in
theorem Tryd.Builder_WriteByte_k (B b : Nat) (bs : List Value) (c : Int) (w : World) (h : Lib.IsBuilderF 39 5 B b bs w) (hlen : bs.length + 1 ≤ 140737488355328) (hBw : B ≤ w.heap.size) :
    Calls Tryd.prog 15 #[.pointer (some ⟨b, 0, none⟩), .int .u8 c] w fun e w' => e = .returned .nilIface ∧ (Lib.BuilderAtF 39 5 B b (.pointer (some ⟨b, 0, none⟩)) (bs ++ [.int .u8 c]) w' ∧ Below B w w' ∧ Lib.OthersKept 5 (some b) w w') := Any.Builder_WriteByte_k Tryd.lays167 Tryd.Builder_Extra_B B b bs c w h hlen hBw
open Go.RowKit in
theorem Tryd.Builder_WriteString_k (B b : Nat) (bs : List Value) (s : ByteArray) (w : World) (h : Lib.IsBuilderF 39 5 B b bs w) (hlen : bs.length + s.size ≤ 140737488355328) (hBw : B ≤ w.heap.size) :
    Calls Tryd.prog 10 #[.pointer (some ⟨b, 0, none⟩), .string s] w fun e w' => e = .returned (.tuple #[.int .i64 s.size, .nilIface]) ∧ (Lib.BuilderAtF 39 5 B b (.pointer (some ⟨b, 0, none⟩)) (bs ++ Lib.strCells s) w' ∧ Below B w w' ∧ Lib.OthersKept 5 (some b) w w') := Any.Builder_WriteString_k Tryd.lays166 Tryd.Builder_Extra_B B b bs s w h hlen hBw
open Go.RowKit in
theorem Tryd.Builder_String_any_k (B b : Nat) (l : List UInt8) (w : World) (h : Lib.IsBuilderF 39 5 B b (Lib.byteCells l) w) (hBw : B ≤ w.heap.size) :
    Calls Tryd.prog 12 #[.pointer (some ⟨b, 0, none⟩)] w fun e w' => e = .returned (.string ⟨l.toArray⟩) ∧ (Lib.IsBuilderF 39 5 B b (Lib.byteCells l) w' ∧ Below B w w' ∧ Lib.OthersKept 5 (some b) w w') := Any.Builder_String_any_k Tryd.lays169 Tryd.Builder_Extra_B B b l w h hBw
end Go.Proofs
