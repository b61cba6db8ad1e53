/-
  THE SHELF's CONTRACTS FOR strings.Builder AT THIS PROGRAM (WriteByte, String), laid in plain words after the guide's lay-plain form; the tables of numbers typed by hand where the tool found none (it leaves out a table that names a type which no body names).
-/
import Derived.Shelf.Strings.Builder1
import Derived.Test.Qxb6632232aProg
namespace Go.Proofs.Qxb6632232a
open Go.Shelf Go.RowKit
def ren : Go.Shelf.Ren := ⟨fun | 169 => 17 | 167 => 18 | 240 => 19 | 276 => 20 | n => n, fun | 0 => 0 | 3 => 3 | 4 => 4 | 5 => 5 | 9 => 9 | 20 => 20 | 37 => 27 | 70 => 37 | 72 => 39 | 75 => 42 | 80 => 40 | 127 => 44 | 164 => 45 | n => n, fun | n => n⟩

theorem lays169 : Go.Proofs.Lays.n169 Try.prog ren := {
  mixed := by kernel_rfl
  f169 := Try.func17.trans (congrArg some (by kernel_rfl))
  t0 := Try.underlying0
  a0 := Try.isAgg0
  z0 := Try.sizeOf0
  v0 := Try.zeroValue0
  t3 := Try.underlying3
  a3 := Try.isAgg3
  z3 := Try.sizeOf3
  v3 := Try.zeroValue3
  t9 := Try.underlying9
  a9 := Try.isAgg9
  z9 := Try.sizeOf9
  v9 := Try.zeroValue9
  t37 := Try.underlying27
  a37 := Try.isAgg27
  z37 := Try.sizeOf27
  v37 := Try.zeroValue27
  t70 := Try.underlying37
  a70 := Try.isAgg37
  z70 := Try.sizeOf37
  v70 := Try.zeroValue37
  t72 := Try.underlying39
  a72 := Try.isAgg39
  z72 := Try.sizeOf39
  v72 := Try.zeroValue39
  t127 := Try.underlying44
  a127 := Try.isAgg44
  z127 := Try.sizeOf44
  v127 := Try.zeroValue44 }

theorem lays167 : Go.Proofs.Lays.n167 Try.prog ren := {
  mixed := by kernel_rfl
  f167 := Try.func18.trans (congrArg some (by kernel_rfl))
  f240 := Try.func19.trans (congrArg some (by kernel_rfl))
  f276 := Try.func20.trans (congrArg some (by kernel_rfl))
  t0 := Try.underlying0
  a0 := Try.isAgg0
  z0 := Try.sizeOf0
  v0 := Try.zeroValue0
  t4 := Try.underlying4
  a4 := Try.isAgg4
  z4 := Try.sizeOf4
  v4 := Try.zeroValue4
  t5 := Try.underlying5
  a5 := Try.isAgg5
  z5 := Try.sizeOf5
  v5 := Try.zeroValue5
  t9 := Try.underlying9
  a9 := Try.isAgg9
  z9 := Try.sizeOf9
  v9 := Try.zeroValue9
  t20 := Try.underlying20
  a20 := Try.isAgg20
  z20 := Try.sizeOf20
  v20 := Try.zeroValue20
  t37 := Try.underlying27
  a37 := Try.isAgg27
  z37 := Try.sizeOf27
  v37 := Try.zeroValue27
  t70 := Try.underlying37
  a70 := Try.isAgg37
  z70 := Try.sizeOf37
  v70 := Try.zeroValue37
  t72 := Try.underlying39
  a72 := Try.isAgg39
  z72 := Try.sizeOf39
  v72 := Try.zeroValue39
  t75 := Try.underlying42
  a75 := Try.isAgg42
  z75 := Try.sizeOf42
  v75 := Try.zeroValue42
  t164 := Try.underlying45
  a164 := Try.isAgg45
  z164 := Try.sizeOf45
  v164 := Try.zeroValue45 }

theorem extra : Builder.Extra Try.prog ren := {
  sizeBuilder := by kernel_rfl
  liesBuilder := by kernel_rfl
  t5 := Try.underlying5
  a5 := Try.isAgg5
  z5 := Try.sizeOf5
  v5 := Try.zeroValue5
  infoByte := by kernel_rfl
  cellsByte := by kernel_rfl
  sizeByte := by kernel_rfl
  neB5 := by decide }

/-- WriteByte: the builder's bytes are one more; the new length takes at most 2^47 bytes -/
theorem writeByte (B b : Nat) (bs : List Value) (c : Int) (w : World) (h : Lib.IsBuilder 39 5 B b bs w) (hlen : bs.length + 1 ≤ 140737488355328) (hBw : B ≤ w.heap.size) :
    Calls Try.prog 18 #[.pointer (some ⟨b, 0, none⟩), .int .u8 c] w fun e w' => e = .returned .nilIface ∧ (Lib.BuilderAt 39 5 B b (.pointer (some ⟨b, 0, none⟩)) (bs ++ [.int .u8 c]) w' ∧ Below B w w') := Any.Builder_WriteByte lays167 extra B b bs c w h hlen hBw
/-- String: what the builder holds -/
theorem builderString (B b : Nat) (l : List UInt8) (w : World) (h : Lib.IsBuilder 39 5 B b (Lib.byteCells l) w) (hBw : B ≤ w.heap.size) :
    Calls Try.prog 17 #[.pointer (some ⟨b, 0, none⟩)] w fun e w' => e = .returned (.string ⟨l.toArray⟩) ∧ Below B w w' := Any.Builder_String_any lays169 extra B b l w h hBw
end Go.Proofs.Qxb6632232a
