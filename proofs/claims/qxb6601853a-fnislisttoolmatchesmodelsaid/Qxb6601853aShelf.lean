/-
  The kit's contracts of Go's library at this program, in plain words (written by the kit's own tools for this dump; pruned to what the proofs use).
-/
import Derived.Shelf.Small.Wraps
import Derived.Shelf.Strings.Search1
import Derived.Shelf.Strings.Search2
import Derived.Shelf.Strings.Search3
import Derived.Shelf.LaysM
import Derived.Shelf.Strings.Shaped
import Derived.Shelf.Strings.Prefix
import Derived.Test.Qxb6601853aProg
namespace Go.Proofs
open Go.Shelf
def Try.lays104_ren : Go.Shelf.Ren := ⟨fun | 104 => 20 | 211 => 22 | 207 => 24 | n => n, fun | 9 => 9 | 4 => 4 | 24 => 27 | 3 => 3 | n => n, fun | n => n⟩
theorem Try.lays104 : Go.Proofs.Lays.n104 Try.prog Try.lays104_ren := {
  mixed := by kernel_rfl
  f104 := Try.func20.trans (congrArg some (by kernel_rfl))
  f207 := Try.func24.trans (congrArg some (by kernel_rfl))
  f211 := Try.func22.trans (congrArg some (by kernel_rfl))
  t3 := Try.underlying3
  a3 := Try.isAgg3
  z3 := Try.sizeOf3
  v3 := Try.zeroValue3
  t4 := Try.underlying4
  a4 := Try.isAgg4
  z4 := Try.sizeOf4
  v4 := Try.zeroValue4
  t9 := Try.underlying9
  a9 := Try.isAgg9
  z9 := Try.sizeOf9
  v9 := Try.zeroValue9
  t24 := Try.underlying27
  a24 := Try.isAgg27
  z24 := Try.sizeOf27
  v24 := Try.zeroValue27 }
open Go.RowKit in
theorem Try.strings_CutSuffix (s p : ByteArray) (w : World) (hs : s.size ≤ 9223372036854775807) :
    Calls Try.prog 20 #[.string s, .string p] w fun e w' => e = .returned (.tuple #[.string ⟨(Lib.trimSuffix s.data.toList p.data.toList).toArray⟩, .bool (Lib.hasSuffix s.data.toList p.data.toList)]) ∧ w' = w := Any.strings_CutSuffix Try.lays104 s p w hs
def Try.lays144_ren : Go.Shelf.Ren := ⟨fun | 144 => 21 | 143 => 23 | 219 => 25 | 217 => 26 | 225 => 27 | 224 => 28 | 267 => 29 | 266 => 30 | 314 => 31 | n => n, fun | 9 => 9 | 4 => 4 | 3 => 3 | 5 => 5 | 46 => 32 | 146 => 34 | 51 => 33 | n => n, fun | 1 => 0 | n => n⟩
theorem Try.lays144 : Go.Proofs.Lays.n144 Try.prog Try.lays144_ren := {
  mixed := by kernel_rfl
  f143 := Try.func23.trans (congrArg some (by kernel_rfl))
  f144 := Try.func21.trans (congrArg some (by kernel_rfl))
  f217 := Try.func26.trans (congrArg some (by kernel_rfl))
  f219 := Try.func25.trans (congrArg some (by kernel_rfl))
  f224 := Try.func28.trans (congrArg some (by kernel_rfl))
  f225 := Try.func27.trans (congrArg some (by kernel_rfl))
  f266 := Try.func30.trans (congrArg some (by kernel_rfl))
  f267 := Try.func29.trans (congrArg some (by kernel_rfl))
  f314 := Try.func31.trans (congrArg some (by kernel_rfl))
  t3 := Try.underlying3
  a3 := Try.isAgg3
  z3 := Try.sizeOf3
  v3 := Try.zeroValue3
  t4 := Try.underlying4
  a4 := Try.isAgg4
  z4 := Try.sizeOf4
  v4 := Try.zeroValue4
  t5 := Try.underlying5
  a5 := Try.isAgg5
  z5 := Try.sizeOf5
  v5 := Try.zeroValue5
  t9 := Try.underlying9
  a9 := Try.isAgg9
  z9 := Try.sizeOf9
  v9 := Try.zeroValue9
  t46 := Try.underlying32
  a46 := Try.isAgg32
  z46 := Try.sizeOf32
  v46 := Try.zeroValue32
  t51 := Try.underlying33
  a51 := Try.isAgg33
  z51 := Try.sizeOf33
  v51 := Try.zeroValue33
  t146 := Try.underlying34
  a146 := Try.isAgg34
  z146 := Try.sizeOf34
  v146 := Try.zeroValue34
  g1 := by kernel_rfl }
open Go.RowKit Go.Lib in
theorem Try.strings_Contains_one (s : ByteArray) (c : UInt8) (w : World) :
    Calls Try.prog 21 #[.string s, .string ⟨#[c]⟩] w fun e w' => e = .returned (.bool (decide (0 ≤ Lib.indexByte s.data.toList c))) ∧ w' = w := Any.strings_Contains_one Try.lays144 s c w
end Go.Proofs
