/-
  The shelf's contract of strings.LastIndex at this program, in plain words: written by the kit's own tools lay-shelf.mjs and lay-plain.mjs; its remarks shortened by hand.
-/
import Derived.Shelf.Strings.LastIndex
import Derived.Shelf.Strings.LastIndexAll
import Derived.Test.YbulkdpdsProg
namespace Go.Proofs
open Go.Shelf
def Yba.lays148_ren : Go.Shelf.Ren := ⟨fun | 148 => 9 | 222 => 11 | 223 => 12 | 269 => 13 | n => n, fun | 9 => 9 | 3 => 3 | 4 => 4 | 5 => 5 | 146 => 42 | 51 => 41 | 46 => 44 | n => n, fun | n => n⟩
theorem Yba.lays148 : Go.Proofs.Lays.n148 Yba.prog Yba.lays148_ren := {
  mixed := by kernel_rfl
  f148 := Yba.func9.trans (congrArg some (by kernel_rfl))
  f222 := Yba.func11.trans (congrArg some (by kernel_rfl))
  f223 := Yba.func12.trans (congrArg some (by kernel_rfl))
  f269 := Yba.func13.trans (congrArg some (by kernel_rfl))
  t3 := Yba.underlying3
  a3 := Yba.isAgg3
  z3 := Yba.sizeOf3
  v3 := Yba.zeroValue3
  t4 := Yba.underlying4
  a4 := Yba.isAgg4
  z4 := Yba.sizeOf4
  v4 := Yba.zeroValue4
  t5 := Yba.underlying5
  a5 := Yba.isAgg5
  z5 := Yba.sizeOf5
  v5 := Yba.zeroValue5
  t9 := Yba.underlying9
  a9 := Yba.isAgg9
  z9 := Yba.sizeOf9
  v9 := Yba.zeroValue9
  t46 := Yba.underlying44
  a46 := Yba.isAgg44
  z46 := Yba.sizeOf44
  v46 := Yba.zeroValue44
  t51 := Yba.underlying41
  a51 := Yba.isAgg41
  z51 := Yba.sizeOf41
  v51 := Yba.zeroValue41
  t146 := Yba.underlying42
  a146 := Yba.isAgg42
  z146 := Yba.sizeOf42
  v146 := Yba.zeroValue42 }
open Go.RowKit Go.Lib in
/-- strings.LastIndex at a substr of whatever length: one application. -/
theorem Yba.strings_LastIndex (s sub : ByteArray) (hs : s.size < 4611686018427387904) (w : World) :
    Calls Yba.prog 9 #[.string s, .string sub] w fun e w' => e = .returned (.int .i64 (Lib.lastIndex s.data.toList sub.data.toList)) ∧ w' = w := Any.strings_LastIndex Yba.lays148 s sub hs w
end Go.Proofs
