/- strings.Builder.WriteString at this dump: the shelf's contract, laid by hand. No condition. -/
import Derived.Shelf.Strings.BuilderK
import Derived.Test.YtaockngppbeanaaGreatDoorShelf
import Derived.Test.YtaockngppbeanaaGreatDoorProg
namespace Go.Proofs
open Go.Shelf
def Tryz.lays166_ren : Go.Shelf.Ren := ⟨fun | 166 => 128 | 240 => 154 | 276 => 187 | n => n, fun | 0 => 0 | 3 => 3 | 4 => 4 | 5 => 5 | 9 => 9 | 20 => 20 | 37 => 96 | 70 => 150 | 72 => 152 | 75 => 78 | 80 => 131 | 164 => 221 | n => n, fun | n => n⟩
theorem Tryz.lays166 : Go.Proofs.Lays.n166 Tryz.prog Tryz.lays166_ren := {
  mixed := by kernel_rfl
  f166 := Tryz.func128.trans (congrArg some (by kernel_rfl))
  f240 := Tryz.func154.trans (congrArg some (by kernel_rfl))
  f276 := Tryz.func187.trans (congrArg some (by kernel_rfl))
  t0 := Tryz.underlying0
  a0 := Tryz.isAgg0
  z0 := Tryz.sizeOf0
  v0 := Tryz.zeroValue0
  t3 := Tryz.underlying3
  a3 := Tryz.isAgg3
  z3 := Tryz.sizeOf3
  v3 := Tryz.zeroValue3
  t4 := Tryz.underlying4
  a4 := Tryz.isAgg4
  z4 := Tryz.sizeOf4
  v4 := Tryz.zeroValue4
  t9 := Tryz.underlying9
  a9 := Tryz.isAgg9
  z9 := Tryz.sizeOf9
  v9 := Tryz.zeroValue9
  t20 := Tryz.underlying20
  a20 := Tryz.isAgg20
  z20 := Tryz.sizeOf20
  v20 := Tryz.zeroValue20
  t37 := Tryz.underlying96
  a37 := Tryz.isAgg96
  z37 := Tryz.sizeOf96
  v37 := Tryz.zeroValue96
  t70 := Tryz.underlying150
  a70 := Tryz.isAgg150
  z70 := Tryz.sizeOf150
  v70 := Tryz.zeroValue150
  t72 := Tryz.underlying152
  a72 := Tryz.isAgg152
  z72 := Tryz.sizeOf152
  v72 := Tryz.zeroValue152
  t75 := Tryz.underlying78
  a75 := Tryz.isAgg78
  z75 := Tryz.sizeOf78
  v75 := Tryz.zeroValue78
  t164 := Tryz.underlying221
  a164 := Tryz.isAgg221
  z164 := Tryz.sizeOf221
  v164 := Tryz.zeroValue221 }
theorem Tryz.Builder_Extra_166 : Builder.Extra Tryz.prog Tryz.lays166_ren where
  sizeBuilder := by kernel_rfl
  liesBuilder := by kernel_rfl
  t5 := Tryz.underlying5
  a5 := Tryz.isAgg5
  z5 := Tryz.sizeOf5
  v5 := Tryz.zeroValue5
  infoByte := by kernel_rfl
  cellsByte := by kernel_rfl
  sizeByte := by kernel_rfl
  neB5 := by decide
open Go.RowKit in
/-- WriteString writes on at a builder's end; what is no builder's stays. -/
theorem Tryz.Builder_WriteString_k (B b : Nat) (bs : List Value) (s : ByteArray) (w : World) (h : Lib.IsBuilderF 152 5 B b bs w) (hlen : bs.length + s.size ≤ 140737488355328) (hBw : B ≤ w.heap.size) :
    Calls Tryz.prog 128 #[.pointer (some ⟨b, 0, none⟩), .string s] w fun e w' => e = .returned (.tuple #[.int .i64 s.size, .nilIface]) ∧ (Lib.BuilderAtF 152 5 B b (.pointer (some ⟨b, 0, none⟩)) (bs ++ Lib.strCells s) w' ∧ Below B w w' ∧ Lib.OthersKept 5 (some b) w w') := Any.Builder_WriteString_k Tryz.lays166 Tryz.Builder_Extra_166 B b bs s w h hlen hBw
open Go.RowKit in
/-- String hands back what was written; what is no builder's stays. -/
theorem Tryz.Builder_String_k (B b : Nat) (l : List UInt8) (w : World) (h : Lib.IsBuilderF 152 5 B b (Lib.byteCells l) w) (hBw : B ≤ w.heap.size) :
    Calls Tryz.prog 131 #[.pointer (some ⟨b, 0, none⟩)] w fun e w' => e = .returned (.string ⟨l.toArray⟩) ∧ (Lib.IsBuilderF 152 5 B b (Lib.byteCells l) w' ∧ Below B w w' ∧ Lib.OthersKept 5 (some b) w w') := Any.Builder_String_any_k Tryz.lays169 Tryz.Builder_Extra_169 B b l w h hBw
end Go.Proofs
