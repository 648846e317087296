/-
  strings.Builder AT THIS PROGRAM: String and WriteByte by the kit's shelf, each contract laid at this program's numbers (the kit's laying tool does not lay WriteByte here, for copyCheck's body in this cut names no string type: the numbering is typed by hand; the kernel compares the bodies all the same).
-/
import Derived.Test.Qxb6619500aRows
import Derived.Shelf.Strings.Builder1
import Derived.WalkKit
set_option linter.unusedVariables false
namespace Go.Proofs.Qxb6619500a
open Go.Shelf Go.RowKit

/-- The numbering of (*strings.Builder).String's closure in this program. -/
def bldRen : Ren := ⟨fun | 169 => 19 | n => n, fun | 70 => 31 | 9 => 9 | 0 => 0 | 72 => 33 | 37 => 30 | 127 => 38 | 3 => 3 | 5 => 5 | n => n, fun | n => n⟩
theorem bldLays : Go.Proofs.Lays.n169 Try.prog bldRen := {
  mixed := by kernel_rfl
  f169 := Try.func19.trans (congrArg some (by kernel_rfl))
  t0 := Try.underlying0
  a0 := Try.isAgg0
  z0 := Try.sizeOf0
  v0 := Try.zeroValue0
  t3 := Try.underlying3
  a3 := Try.isAgg3
  z3 := Try.sizeOf3
  v3 := Try.zeroValue3
  t9 := Try.underlying9
  a9 := Try.isAgg9
  z9 := Try.sizeOf9
  v9 := Try.zeroValue9
  t37 := Try.underlying30
  a37 := Try.isAgg30
  z37 := Try.sizeOf30
  v37 := Try.zeroValue30
  t70 := Try.underlying31
  a70 := Try.isAgg31
  z70 := Try.sizeOf31
  v70 := Try.zeroValue31
  t72 := Try.underlying33
  a72 := Try.isAgg33
  z72 := Try.sizeOf33
  v72 := Try.zeroValue33
  t127 := Try.underlying38
  a127 := Try.isAgg38
  z127 := Try.sizeOf38
  v127 := Try.zeroValue38 }
theorem bldExtra : Builder.Extra Try.prog bldRen := {
  sizeBuilder := by kernel_rfl
  liesBuilder := by kernel_rfl
  t5 := Try.underlying5
  a5 := Try.isAgg5
  z5 := Try.sizeOf5
  v5 := Try.zeroValue5
  infoByte := by kernel_rfl
  cellsByte := by kernel_rfl
  sizeByte := by kernel_rfl
  neB5 := by decide }

/-- (*strings.Builder).String, whatever the builder holds. -/
theorem bld_string (B b : Nat) (l : List UInt8) (w : World) (h : Lib.IsBuilder 33 5 B b (Lib.byteCells l) w) (hBw : B ≤ w.heap.size) :
    Calls Try.prog 19 #[.pointer (some ⟨b, 0, none⟩)] w fun e w' => e = .returned (.string ⟨l.toArray⟩) ∧ Below B w w' := Any.Builder_String_any bldLays bldExtra B b l w h hBw

/-- The numbering of (*strings.Builder).WriteByte's closure in this program. -/
def wrRen : Ren := ⟨fun | 167 => 18 | 240 => 20 | 276 => 21 | n => n, fun | 0 => 0 | 4 => 4 | 5 => 5 | 9 => 9 | 20 => 20 | 37 => 30 | 70 => 31 | 72 => 33 | 75 => 35 | 80 => 37 | 164 => 39 | n => n, fun | n => n⟩
theorem wrLays : Go.Proofs.Lays.n167 Try.prog wrRen := {
  mixed := by kernel_rfl
  f167 := Try.func18.trans (congrArg some (by kernel_rfl))
  f240 := Try.func20.trans (congrArg some (by kernel_rfl))
  f276 := Try.func21.trans (congrArg some (by kernel_rfl))
  t0 := Try.underlying0
  a0 := Try.isAgg0
  z0 := Try.sizeOf0
  v0 := Try.zeroValue0
  t4 := Try.underlying4
  a4 := Try.isAgg4
  z4 := Try.sizeOf4
  v4 := Try.zeroValue4
  t5 := Try.underlying5
  a5 := Try.isAgg5
  z5 := Try.sizeOf5
  v5 := Try.zeroValue5
  t9 := Try.underlying9
  a9 := Try.isAgg9
  z9 := Try.sizeOf9
  v9 := Try.zeroValue9
  t20 := Try.underlying20
  a20 := Try.isAgg20
  z20 := Try.sizeOf20
  v20 := Try.zeroValue20
  t37 := Try.underlying30
  a37 := Try.isAgg30
  z37 := Try.sizeOf30
  v37 := Try.zeroValue30
  t70 := Try.underlying31
  a70 := Try.isAgg31
  z70 := Try.sizeOf31
  v70 := Try.zeroValue31
  t72 := Try.underlying33
  a72 := Try.isAgg33
  z72 := Try.sizeOf33
  v72 := Try.zeroValue33
  t75 := Try.underlying35
  a75 := Try.isAgg35
  z75 := Try.sizeOf35
  v75 := Try.zeroValue35
  t164 := Try.underlying39
  a164 := Try.isAgg39
  z164 := Try.sizeOf39
  v164 := Try.zeroValue39 }
theorem wrExtra : Builder.Extra Try.prog wrRen := {
  sizeBuilder := by kernel_rfl
  liesBuilder := by kernel_rfl
  t5 := Try.underlying5
  a5 := Try.isAgg5
  z5 := Try.sizeOf5
  v5 := Try.zeroValue5
  infoByte := by kernel_rfl
  cellsByte := by kernel_rfl
  sizeByte := by kernel_rfl
  neB5 := by decide }

/-- (*strings.Builder).WriteByte: one byte more; the returned error is nil. -/
theorem bld_write (B b : Nat) (bs : List Value) (c : Int) (w : World) (h : Lib.IsBuilder 33 5 B b bs w) (hlen : bs.length + 1 ≤ 140737488355328) (hBw : B ≤ w.heap.size) :
    Calls Try.prog 18 #[.pointer (some ⟨b, 0, none⟩), .int .u8 c] w fun e w' => e = .returned .nilIface ∧ (Lib.BuilderAt 33 5 B b (.pointer (some ⟨b, 0, none⟩)) (bs ++ [.int .u8 c]) w' ∧ Below B w w') := Any.Builder_WriteByte wrLays wrExtra B b bs c w h hlen hBw
end Go.Proofs.Qxb6619500a
