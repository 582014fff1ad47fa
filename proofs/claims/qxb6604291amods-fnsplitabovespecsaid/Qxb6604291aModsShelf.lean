/-
  THE SHELF's CONTRACTS of strings.LastIndex and strings.HasSuffix AT THIS DUMP, in plain words (written by the kit's lay-shelf.mjs and lay-plain.mjs for this program; cut down to these two).
-/
import Derived.Shelf.Strings.LastIndex
import Derived.Shelf.Strings.LastIndexAll
import Derived.Shelf.Strings.Prefix
import Derived.Test.Qxb6604291aModsProg
namespace Go.Proofs
open Go.Shelf
def Trym.lays148_ren : Go.Shelf.Ren := ⟨fun | 148 => 13 | 222 => 15 | 223 => 16 | 269 => 17 | n => n, fun | 9 => 9 | 3 => 3 | 4 => 4 | 5 => 5 | 146 => 30 | 51 => 29 | 46 => 32 | n => n, fun | n => n⟩
theorem Trym.lays148 : Go.Proofs.Lays.n148 Trym.prog Trym.lays148_ren := {
  mixed := by kernel_rfl
  f148 := Trym.func13.trans (congrArg some (by kernel_rfl))
  f222 := Trym.func15.trans (congrArg some (by kernel_rfl))
  f223 := Trym.func16.trans (congrArg some (by kernel_rfl))
  f269 := Trym.func17.trans (congrArg some (by kernel_rfl))
  t3 := Trym.underlying3
  a3 := Trym.isAgg3
  z3 := Trym.sizeOf3
  v3 := Trym.zeroValue3
  t4 := Trym.underlying4
  a4 := Trym.isAgg4
  z4 := Trym.sizeOf4
  v4 := Trym.zeroValue4
  t5 := Trym.underlying5
  a5 := Trym.isAgg5
  z5 := Trym.sizeOf5
  v5 := Trym.zeroValue5
  t9 := Trym.underlying9
  a9 := Trym.isAgg9
  z9 := Trym.sizeOf9
  v9 := Trym.zeroValue9
  t46 := Trym.underlying32
  a46 := Trym.isAgg32
  z46 := Trym.sizeOf32
  v46 := Trym.zeroValue32
  t51 := Trym.underlying29
  a51 := Trym.isAgg29
  z51 := Trym.sizeOf29
  v51 := Trym.zeroValue29
  t146 := Trym.underlying30
  a146 := Trym.isAgg30
  z146 := Trym.sizeOf30
  v146 := Trym.zeroValue30 }
open Go.RowKit Go.Lib in
theorem Trym.strings_LastIndex (s sub : ByteArray) (hs : s.size < 4611686018427387904) (w : World) :
    Calls Trym.prog 13 #[.string s, .string sub] w fun e w' => e = .returned (.int .i64 (Lib.lastIndex s.data.toList sub.data.toList)) ∧ w' = w := Any.strings_LastIndex Trym.lays148 s sub hs w
def Trym.lays100_ren : Go.Shelf.Ren := ⟨fun | 100 => 12 | 207 => 14 | n => n, fun | 9 => 9 | 4 => 4 | 3 => 3 | n => n, fun | n => n⟩
theorem Trym.lays100 : Go.Proofs.Lays.n100 Trym.prog Trym.lays100_ren := {
  mixed := by kernel_rfl
  f100 := Trym.func12.trans (congrArg some (by kernel_rfl))
  f207 := Trym.func14.trans (congrArg some (by kernel_rfl))
  t3 := Trym.underlying3
  a3 := Trym.isAgg3
  z3 := Trym.sizeOf3
  v3 := Trym.zeroValue3
  t4 := Trym.underlying4
  a4 := Trym.isAgg4
  z4 := Trym.sizeOf4
  v4 := Trym.zeroValue4
  t9 := Trym.underlying9
  a9 := Trym.isAgg9
  z9 := Trym.sizeOf9
  v9 := Trym.zeroValue9 }
open Go.RowKit Go.Lib in
theorem Trym.strings_HasSuffix (s p : ByteArray) (w : World) (hs : s.size ≤ 9223372036854775807) :
    Calls Trym.prog 12 #[.string s, .string p] w fun e w' => e = .returned (.bool (Lib.hasSuffix s.data.toList p.data.toList)) ∧ w' = w := Any.strings_HasSuffix Trym.lays100 s p w hs
end Go.Proofs
