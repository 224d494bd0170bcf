/-
  The kit's contracts of Go's library at this program, in plain words (written by the kit's own tools for this dump; pruned to what the proofs use).
-/
import Derived.Shelf.Small.Strs
import Derived.Shelf.Strings.Search1
import Derived.Shelf.Strings.Prefix
import Derived.Test.Qxb6601375aProg
namespace Go.Proofs
open Go.Shelf
def Try.lays137_ren : Go.Shelf.Ren := ⟨fun | 137 => 35 | 217 => 42 | 266 => 46 | n => n, fun | 9 => 9 | 5 => 5 | 3 => 3 | n => n, fun | n => n⟩
theorem Try.lays137 : Go.Proofs.Lays.n137 Try.prog Try.lays137_ren := {
  mixed := by kernel_rfl
  f137 := Try.func35.trans (congrArg some (by kernel_rfl))
  f217 := Try.func42.trans (congrArg some (by kernel_rfl))
  f266 := Try.func46.trans (congrArg some (by kernel_rfl))
  t3 := Try.underlying3
  a3 := Try.isAgg3
  z3 := Try.sizeOf3
  v3 := Try.zeroValue3
  t5 := Try.underlying5
  a5 := Try.isAgg5
  z5 := Try.sizeOf5
  v5 := Try.zeroValue5
  t9 := Try.underlying9
  a9 := Try.isAgg9
  z9 := Try.sizeOf9
  v9 := Try.zeroValue9 }
open Go.RowKit in
theorem Try.strings_IndexByte (s : ByteArray) (c : Int) (w : World) :
    Calls Try.prog 35 #[.string s, .int .u8 c] w fun e w' => e = .returned (.int .i64 (Lib.indexByte s.data.toList c.toNat.toUInt8)) ∧ w' = w := Any.strings_IndexByte Try.lays137 s c w
def Try.lays99_ren : Go.Shelf.Ren := ⟨fun | 99 => 32 | 206 => 38 | n => n, fun | 9 => 9 | 4 => 4 | 3 => 3 | n => n, fun | n => n⟩
theorem Try.lays99 : Go.Proofs.Lays.n99 Try.prog Try.lays99_ren := {
  mixed := by kernel_rfl
  f99 := Try.func32.trans (congrArg some (by kernel_rfl))
  f206 := Try.func38.trans (congrArg some (by kernel_rfl))
  t3 := Try.underlying3
  a3 := Try.isAgg3
  z3 := Try.sizeOf3
  v3 := Try.zeroValue3
  t4 := Try.underlying4
  a4 := Try.isAgg4
  z4 := Try.sizeOf4
  v4 := Try.zeroValue4
  t9 := Try.underlying9
  a9 := Try.isAgg9
  z9 := Try.sizeOf9
  v9 := Try.zeroValue9 }
open Go.RowKit Go.Lib in
theorem Try.strings_HasPrefix (s p : ByteArray) (w : World) :
    Calls Try.prog 32 #[.string s, .string p] w fun e w' => e = .returned (.bool (Lib.hasPrefix s.data.toList p.data.toList)) ∧ w' = w := Any.strings_HasPrefix Try.lays99 s p w
def Try.lays101_ren : Go.Shelf.Ren := ⟨fun | 101 => 28 | 208 => 37 | 206 => 38 | n => n, fun | 9 => 9 | 4 => 4 | 3 => 3 | n => n, fun | n => n⟩
theorem Try.lays101 : Go.Proofs.Lays.n101 Try.prog Try.lays101_ren := {
  mixed := by kernel_rfl
  f101 := Try.func28.trans (congrArg some (by kernel_rfl))
  f206 := Try.func38.trans (congrArg some (by kernel_rfl))
  f208 := Try.func37.trans (congrArg some (by kernel_rfl))
  t3 := Try.underlying3
  a3 := Try.isAgg3
  z3 := Try.sizeOf3
  v3 := Try.zeroValue3
  t4 := Try.underlying4
  a4 := Try.isAgg4
  z4 := Try.sizeOf4
  v4 := Try.zeroValue4
  t9 := Try.underlying9
  a9 := Try.isAgg9
  z9 := Try.sizeOf9
  v9 := Try.zeroValue9 }
open Go.RowKit Go.Lib in
theorem Try.strings_TrimPrefix (s p : ByteArray) (w : World) :
    Calls Try.prog 28 #[.string s, .string p] w fun e w' => e = .returned (.string ⟨(Lib.trimPrefix s.data.toList p.data.toList).toArray⟩) ∧ w' = w := Any.strings_TrimPrefix Try.lays101 s p w
def Try.lays102_ren : Go.Shelf.Ren := ⟨fun | 102 => 26 | 209 => 36 | 207 => 43 | n => n, fun | 9 => 9 | 4 => 4 | 3 => 3 | n => n, fun | n => n⟩
theorem Try.lays102 : Go.Proofs.Lays.n102 Try.prog Try.lays102_ren := {
  mixed := by kernel_rfl
  f102 := Try.func26.trans (congrArg some (by kernel_rfl))
  f207 := Try.func43.trans (congrArg some (by kernel_rfl))
  f209 := Try.func36.trans (congrArg some (by kernel_rfl))
  t3 := Try.underlying3
  a3 := Try.isAgg3
  z3 := Try.sizeOf3
  v3 := Try.zeroValue3
  t4 := Try.underlying4
  a4 := Try.isAgg4
  z4 := Try.sizeOf4
  v4 := Try.zeroValue4
  t9 := Try.underlying9
  a9 := Try.isAgg9
  z9 := Try.sizeOf9
  v9 := Try.zeroValue9 }
open Go.RowKit Go.Lib in
theorem Try.strings_TrimSuffix (s p : ByteArray) (w : World) (hs : s.size ≤ 9223372036854775807) :
    Calls Try.prog 26 #[.string s, .string p] w fun e w' => e = .returned (.string ⟨(Lib.trimSuffix s.data.toList p.data.toList).toArray⟩) ∧ w' = w := Any.strings_TrimSuffix Try.lays102 s p w hs
end Go.Proofs
