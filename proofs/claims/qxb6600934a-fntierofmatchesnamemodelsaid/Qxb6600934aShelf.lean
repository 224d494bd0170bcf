/-
  The kit's contracts of Go's library at this program, in plain words (written by the kit's own tools for this dump; pruned to what the proofs use).
-/
import Derived.Shelf.Strings.Search1
import Derived.Shelf.Strings.Search2
import Derived.Shelf.Strings.Search3
import Derived.Shelf.Strings.Cut
import Derived.Shelf.Strings.Count
import Derived.Shelf.LaysM
import Derived.Shelf.Strings.Shaped
import Derived.Shelf.Strings.Split
import Derived.Test.Qxb6600934aProg
namespace Go.Proofs
open Go.Shelf
def Try.lays219_ren : Go.Shelf.Ren := ⟨fun | 219 => 26 | 217 => 27 | 225 => 28 | 224 => 29 | 267 => 30 | 266 => 31 | 314 => 32 | n => n, fun | 9 => 9 | 3 => 3 | 4 => 4 | 5 => 5 | 46 => 34 | 146 => 36 | 51 => 35 | n => n, fun | 1 => 0 | n => n⟩
theorem Try.lays219 : Go.Proofs.Lays.n219 Try.prog Try.lays219_ren := {
  mixed := by kernel_rfl
  f217 := Try.func27.trans (congrArg some (by kernel_rfl))
  f219 := Try.func26.trans (congrArg some (by kernel_rfl))
  f224 := Try.func29.trans (congrArg some (by kernel_rfl))
  f225 := Try.func28.trans (congrArg some (by kernel_rfl))
  f266 := Try.func31.trans (congrArg some (by kernel_rfl))
  f267 := Try.func30.trans (congrArg some (by kernel_rfl))
  f314 := Try.func32.trans (congrArg some (by kernel_rfl))
  t3 := Try.underlying3
  a3 := Try.isAgg3
  z3 := Try.sizeOf3
  v3 := Try.zeroValue3
  t4 := Try.underlying4
  a4 := Try.isAgg4
  z4 := Try.sizeOf4
  v4 := Try.zeroValue4
  t5 := Try.underlying5
  a5 := Try.isAgg5
  z5 := Try.sizeOf5
  v5 := Try.zeroValue5
  t9 := Try.underlying9
  a9 := Try.isAgg9
  z9 := Try.sizeOf9
  v9 := Try.zeroValue9
  t46 := Try.underlying34
  a46 := Try.isAgg34
  z46 := Try.sizeOf34
  v46 := Try.zeroValue34
  t51 := Try.underlying35
  a51 := Try.isAgg35
  z51 := Try.sizeOf35
  v51 := Try.zeroValue35
  t146 := Try.underlying36
  a146 := Try.isAgg36
  z146 := Try.sizeOf36
  v146 := Try.zeroValue36
  g1 := by kernel_rfl }
open Go.RowKit Go.Lib in
theorem Try.stringslite_Index_one (s : ByteArray) (c : UInt8) (w : World) :
    Calls Try.prog 26 #[.string s, .string ⟨#[c]⟩] w fun e w' => e = .returned (.int .i64 (Lib.indexByte s.data.toList c)) ∧ w' = w := Any.stringslite_Index_one Try.lays219 s c w
def Try.lays138_ren : Go.Shelf.Ren := ⟨fun | 138 => 21 | 195 => 23 | 218 => 24 | 143 => 25 | 219 => 26 | 217 => 27 | 225 => 28 | 224 => 29 | 267 => 30 | 266 => 31 | 314 => 32 | n => n, fun | 9 => 9 | 3 => 3 | 4 => 4 | 5 => 5 | 0 => 0 | 46 => 34 | 146 => 36 | 51 => 35 | n => n, fun | 1 => 0 | n => n⟩
theorem Try.lays138 : Go.Proofs.Lays.n138 Try.prog Try.lays138_ren := {
  mixed := by kernel_rfl
  f138 := Try.func21.trans (congrArg some (by kernel_rfl))
  f143 := Try.func25.trans (congrArg some (by kernel_rfl))
  f195 := Try.func23.trans (congrArg some (by kernel_rfl))
  f217 := Try.func27.trans (congrArg some (by kernel_rfl))
  f218 := Try.func24.trans (congrArg some (by kernel_rfl))
  f219 := Try.func26.trans (congrArg some (by kernel_rfl))
  f224 := Try.func29.trans (congrArg some (by kernel_rfl))
  f225 := Try.func28.trans (congrArg some (by kernel_rfl))
  f266 := Try.func31.trans (congrArg some (by kernel_rfl))
  f267 := Try.func30.trans (congrArg some (by kernel_rfl))
  f314 := Try.func32.trans (congrArg some (by kernel_rfl))
  t0 := Try.underlying0
  a0 := Try.isAgg0
  z0 := Try.sizeOf0
  v0 := Try.zeroValue0
  t3 := Try.underlying3
  a3 := Try.isAgg3
  z3 := Try.sizeOf3
  v3 := Try.zeroValue3
  t4 := Try.underlying4
  a4 := Try.isAgg4
  z4 := Try.sizeOf4
  v4 := Try.zeroValue4
  t5 := Try.underlying5
  a5 := Try.isAgg5
  z5 := Try.sizeOf5
  v5 := Try.zeroValue5
  t9 := Try.underlying9
  a9 := Try.isAgg9
  z9 := Try.sizeOf9
  v9 := Try.zeroValue9
  t46 := Try.underlying34
  a46 := Try.isAgg34
  z46 := Try.sizeOf34
  v46 := Try.zeroValue34
  t51 := Try.underlying35
  a51 := Try.isAgg35
  z51 := Try.sizeOf35
  v51 := Try.zeroValue35
  t146 := Try.underlying36
  a146 := Try.isAgg36
  z146 := Try.sizeOf36
  v146 := Try.zeroValue36
  g1 := by kernel_rfl }
open Go.RowKit Go.Lib in
theorem Try.strings_Count_one (s : ByteArray) (c : UInt8) (w : World) :
    Calls Try.prog 21 #[.string s, .string ⟨#[c]⟩] w fun e w' => e = .returned (.int .i64 (Lib.countByte s.data.toList c)) ∧ w' = w := Any.strings_Count_one Try.lays138 s c w
end Go.Proofs
