/-
  The contracts of the shelf for Len and String of strings.Builder at this dump, in plain words, as the tool lay-plain wrote them; the others struck.
-/
import Derived.Shelf.Strings.Builder1
import Derived.Shelf.Strings.BuilderF
import Derived.Shelf.Strings.BuilderK
import Derived.Test.Qxb6001177aProg
namespace Go.Proofs
open Go.Shelf
def Try.lays170_ren : Go.Shelf.Ren := ⟨fun | 170 => 33 | n => n, fun | 70 => 59 | 3 => 3 | 0 => 0 | 72 => 61 | 37 => 48 | 5 => 5 | n => n, fun | n => n⟩
theorem Try.lays170 : Go.Proofs.Lays.n170 Try.prog Try.lays170_ren := {
  mixed := by kernel_rfl
  f170 := Try.func33.trans (congrArg some (by kernel_rfl))
  t0 := Try.underlying0
  a0 := Try.isAgg0
  z0 := Try.sizeOf0
  v0 := Try.zeroValue0
  t3 := Try.underlying3
  a3 := Try.isAgg3
  z3 := Try.sizeOf3
  v3 := Try.zeroValue3
  t37 := Try.underlying48
  a37 := Try.isAgg48
  z37 := Try.sizeOf48
  v37 := Try.zeroValue48
  t70 := Try.underlying59
  a70 := Try.isAgg59
  z70 := Try.sizeOf59
  v70 := Try.zeroValue59
  t72 := Try.underlying61
  a72 := Try.isAgg61
  z72 := Try.sizeOf61
  v72 := Try.zeroValue61 }
def Try.lays169_ren : Go.Shelf.Ren := ⟨fun | 169 => 34 | n => n, fun | 70 => 59 | 9 => 9 | 0 => 0 | 72 => 61 | 37 => 48 | 127 => 71 | 3 => 3 | 5 => 5 | n => n, fun | n => n⟩
theorem Try.lays169 : Go.Proofs.Lays.n169 Try.prog Try.lays169_ren := {
  mixed := by kernel_rfl
  f169 := Try.func34.trans (congrArg some (by kernel_rfl))
  t0 := Try.underlying0
  a0 := Try.isAgg0
  z0 := Try.sizeOf0
  v0 := Try.zeroValue0
  t3 := Try.underlying3
  a3 := Try.isAgg3
  z3 := Try.sizeOf3
  v3 := Try.zeroValue3
  t9 := Try.underlying9
  a9 := Try.isAgg9
  z9 := Try.sizeOf9
  v9 := Try.zeroValue9
  t37 := Try.underlying48
  a37 := Try.isAgg48
  z37 := Try.sizeOf48
  v37 := Try.zeroValue48
  t70 := Try.underlying59
  a70 := Try.isAgg59
  z70 := Try.sizeOf59
  v70 := Try.zeroValue59
  t72 := Try.underlying61
  a72 := Try.isAgg61
  z72 := Try.sizeOf61
  v72 := Try.zeroValue61
  t127 := Try.underlying71
  a127 := Try.isAgg71
  z127 := Try.sizeOf71
  v127 := Try.zeroValue71 }
theorem Try.Builder_Extra_169 : Builder.Extra Try.prog Try.lays169_ren := {
  sizeBuilder := by kernel_rfl
  liesBuilder := by kernel_rfl
  t5 := Try.underlying5
  a5 := Try.isAgg5
  z5 := Try.sizeOf5
  v5 := Try.zeroValue5
  infoByte := by kernel_rfl
  cellsByte := by kernel_rfl
  sizeByte := by kernel_rfl
  neB5 := by decide }
open Go.RowKit in
/-- Len of a strings.Builder: the number of bytes that it holds; the world is as it was. -/
theorem Try.Builder_Len_f (B b : Nat) (bs : List Value) (w : World) (h : Lib.IsBuilderF 61 5 B b bs w) :
    Calls Try.prog 33 #[.pointer (some ⟨b, 0, none⟩)] w fun e w' => e = .returned (.int .i64 bs.length) ∧ w' = w := Any.Builder_Len_f Try.lays170 B b bs w h
open Go.RowKit in
/-- String of a strings.Builder: the bytes that it holds; a builder still; every block that is neither the builder nor a row of bytes stands as it stood. -/
theorem Try.Builder_String_any_k (B b : Nat) (l : List UInt8) (w : World) (h : Lib.IsBuilderF 61 5 B b (Lib.byteCells l) w) (hBw : B ≤ w.heap.size) :
    Calls Try.prog 34 #[.pointer (some ⟨b, 0, none⟩)] w fun e w' => e = .returned (.string ⟨l.toArray⟩) ∧ (Lib.IsBuilderF 61 5 B b (Lib.byteCells l) w' ∧ Below B w w' ∧ Lib.OthersKept 5 (some b) w w') := Any.Builder_String_any_k Try.lays169 Try.Builder_Extra_169 B b l w h hBw
end Go.Proofs
