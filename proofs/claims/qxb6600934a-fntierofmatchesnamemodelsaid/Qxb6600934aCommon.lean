import Derived.Test.Qxb6600934aShelf
import Derived.Test.Qxb6600934aRows
import Derived.WalkKit
import Derived.ProofKit
import Derived.OpenShut
import Derived.ShutString
import Derived.Outline
import Derived.WalkSpells
import Derived.WalkLawsBesides
namespace Go.Proofs.Qxb6600934a
open Go.RowKit

theorem ret_int {k : IntKind} {a b : Int} (h : a = b) : Ending.returned (.int k a) = .returned (.int k b) := by rw [h]
theorem ret_bool {a b : Bool} (h : a = b) : Ending.returned (.bool a) = .returned (.bool b) := by rw [h]

/-- What 'tiers' answers. -/
def tiersB (s : ByteArray) : Int := if s.toList.isEmpty then 1 else (Lib.countByte s.data.toList 47 : Int) + 2

theorem count_le (s : ByteArray) : Lib.countByte s.data.toList 47 ≤ s.size := by
  unfold Lib.countByte
  exact List.count_le_length

theorem tiersB_bd (s : ByteArray) : 1 ≤ tiersB s ∧ tiersB s ≤ s.size + 2 := by
  unfold tiersB
  have := count_le s
  split <;> omega

set_option maxHeartbeats 400000 in
theorem tiers_any (s : ByteArray) (w : World) (hs : s.size ≤ 2097153) :
    Calls Try.prog 19 #[.string s] w fun e w' => e = .returned (.int .i64 (tiersB s)) ∧ w' = w := by
  have hc := count_le s
  go_enter Try.func19, Try.ntmps19
  go_wp2_with (go_at_call 21; refine (Try.strings_Count_one _ _ _).mono ?_; rintro e w' ⟨rfl, rfl⟩)
  · rename_i h
    go_ret
    exact ⟨ret_int (by unfold tiersB; rw [if_pos h]), rfl⟩
  · rename_i h
    go_ret
    exact ⟨ret_int (by unfold tiersB; rw [if_neg (by simp [h])]), rfl⟩

set_option maxHeartbeats 400000 in
theorem zztiers_any (s : ByteArray) (w : World) (hs : s.size ≤ 2097153) :
    Calls Try.prog 13 #[.string s] w fun e w' => e = .returned (.int .i64 (tiersB s)) ∧ w' = w := by
  go_enter Try.func13, Try.ntmps13
  go_wp2_with (go_at_call 19; refine (tiers_any _ _ hs).mono ?_; rintro e w' ⟨rfl, rfl⟩)
  go_ret
  exact ⟨rfl, rfl⟩

/-- What the bound's look answers, at two strings. -/
def b2 (a b : ByteArray) : Bool := decide (a.size + b.size ≤ 1048576)
theorem b2_true {a b : ByteArray} (h : a.size + b.size ≤ 1048576) : true = b2 a b := by unfold b2; simp [h]
theorem b2_false {a b : ByteArray} (h : ¬ a.size + b.size ≤ 1048576) : false = b2 a b := by unfold b2; simp; omega

set_option maxHeartbeats 800000 in
theorem bytes17 (a b : ByteArray) (w : World) (h0 : a.size ≤ maxLen) (h1 : b.size ≤ maxLen) :
    Calls Try.prog 17 #[.string a, .string b] w fun e w' => e = .returned (.bool (b2 a b)) ∧ w' = w := by
  unfold maxLen at h0 h1
  go_enter Try.func17, Try.ntmps17
  go_wp2
  all_goals
    go_ret
    refine ⟨ret_bool ?_, rfl⟩
    first | exact b2_true (by omega) | exact b2_false (by omega)

set_option maxHeartbeats 800000 in
theorem bytes12 (a b : ByteArray) (w : World) (h0 : a.size ≤ maxLen) (h1 : b.size ≤ maxLen) :
    Calls Try.prog 12 #[.string a, .string b] w fun e w' => e = .returned (.bool (b2 a b)) ∧ w' = w := by
  unfold maxLen at h0 h1
  go_enter Try.func12, Try.ntmps12
  go_wp2
  all_goals
    go_ret
    refine ⟨ret_bool ?_, rfl⟩
    first | exact b2_true (by omega) | exact b2_false (by omega)

set_option maxHeartbeats 800000 in
theorem bytes8 (a b : ByteArray) (w : World) (h0 : a.size ≤ maxLen) (h1 : b.size ≤ maxLen) :
    Calls Try.prog 8 #[.string a, .string b] w fun e w' => e = .returned (.bool (b2 a b)) ∧ w' = w := by
  unfold maxLen at h0 h1
  go_enter Try.func8, Try.ntmps8
  go_wp2
  all_goals
    go_ret
    refine ⟨ret_bool ?_, rfl⟩
    first | exact b2_true (by omega) | exact b2_false (by omega)

def b1 (a : ByteArray) : Bool := decide (a.size ≤ 1048576)
theorem b1_true {a : ByteArray} (h : a.size ≤ 1048576) : true = b1 a := by unfold b1; simp [h]
theorem b1_false {a : ByteArray} (h : ¬ a.size ≤ 1048576) : false = b1 a := by unfold b1; simp; omega

set_option maxHeartbeats 800000 in
theorem bytes16 (a : ByteArray) (w : World) (h0 : a.size ≤ maxLen) :
    Calls Try.prog 16 #[.string a] w fun e w' => e = .returned (.bool (b1 a)) ∧ w' = w := by
  unfold maxLen at h0
  go_enter Try.func16, Try.ntmps16
  go_wp2
  all_goals
    go_ret
    refine ⟨ret_bool ?_, rfl⟩
    first | exact b1_true (by omega) | exact b1_false (by omega)
end Go.Proofs.Qxb6600934a
