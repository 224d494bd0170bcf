/-
  The small callees: TrimSuffix, TrimPrefix, fenced, zzBeginsFence, zzIsFence, the bound's look.
-/
import Derived.Test.Qxb6601375aShelf
import Derived.Test.Qxb6601375aRows
import Derived.Test.Qxb6601375aBlk
import Derived.WalkKit
import Derived.WalkSpells
import Derived.WalkLawsBesides
import Derived.Lib.Strings
namespace Go.Proofs.Qxb6601375a
open Go Go.RowKit
open Pl

theorem ret_bool {a b : Bool} (h : a = b) : Ending.returned (.bool a) = .returned (.bool b) := by rw [h]
theorem ret_str {a b : ByteArray} (h : a = b) : Ending.returned (.string a) = .returned (.string b) := by rw [h]

theorem trimS_any (x : ByteArray) (w : World) (hx : x.size ≤ 1048576) :
    Calls Try.prog 26 #[.string x, .string ⟨#[10]⟩] w fun e w' => e = .returned (.string (mk (trim x.data.toList))) ∧ w' = w :=
  (Try.strings_TrimSuffix x _ w (by omega)).mono fun _ _ ⟨he, hw⟩ => ⟨he, hw⟩

theorem drop_three {x : List UInt8} (h : Lib.hasPrefix x fence = true) : Lib.trimPrefix x fence = x.drop 3 := by
  unfold Lib.trimPrefix; rw [if_pos h]; rfl

theorem trimP_any (x : List UInt8) (w : World) (h : Lib.hasPrefix x fence = true) :
    Calls Try.prog 28 #[.string (mk x), .string ⟨#[96, 96, 96]⟩] w fun e w' => e = .returned (.string (mk (x.drop 3))) ∧ w' = w :=
  (Try.strings_TrimPrefix (mk x) _ w).mono fun _ _ ⟨he, hw⟩ => ⟨by
    rw [he, ← drop_three h, mk_list]; rfl, hw⟩

set_option maxHeartbeats 400000 in
theorem fenced_any (x : List UInt8) (i : Bool) (w : World) :
    Calls Try.prog 27 #[.string (mk x), .bool i] w fun e w' => e = .returned (.bool (inside i x)) ∧ w' = w := by
  cases i with
  | true =>
    go_enter Try.func27, Try.ntmps27
    go_wp2
    go_ret
    refine ⟨ret_bool ?_, rfl⟩
    rw [Lib.toList_data, mk_list]
    rfl
  | false =>
    go_enter Try.func27, Try.ntmps27
    go_wp2_with (go_at_call 32; refine (Try.strings_HasPrefix _ _ _).mono ?_; rintro e w' ⟨rfl, rfl⟩)
    go_ret
    refine ⟨ret_bool ?_, rfl⟩
    rw [mk_list]
    rfl

/-- Does a line begin with three backquotes? -/
def begins (x : List UInt8) : Bool := Lib.hasPrefix x fence

theorem beq96 (a : UInt8) : ((96 : UInt8) == a) = ((a.toNat : Int) == 96) := by
  rw [Bool.eq_iff_iff, beq_iff_eq, beq_iff_eq]
  constructor
  · intro h; subst h; rfl
  · intro h; exact UInt8.toNat_inj.1 (by have : (96 : UInt8).toNat = 96 := rfl; omega)
theorem begins_three (s : ByteArray) (h : 3 ≤ s.size) : begins s.data.toList = (((s[0].toNat : Int) == 96) && (((s[1].toNat : Int) == 96) && ((s[2].toNat : Int) == 96))) := by
  obtain ⟨⟨l⟩⟩ := s
  match l, h with
  | a :: b :: c :: t, _ =>
    show (((96 : UInt8) == a) && (((96 : UInt8) == b) && (((96 : UInt8) == c) && true))) = (((a.toNat : Int) == 96) && (((b.toNat : Int) == 96) && ((c.toNat : Int) == 96)))
    rw [beq96, beq96, beq96, Bool.and_true]
theorem begins_short (s : ByteArray) (h : s.size < 3) : begins s.data.toList = false := by
  obtain ⟨⟨l⟩⟩ := s
  match l, h with
  | [], _ => rfl
  | [a], _ => show (((96 : UInt8) == a) && false) = false; simp
  | [a, b], _ => show (((96 : UInt8) == a) && (((96 : UInt8) == b) && false)) = false; simp
  | _ :: _ :: _ :: _, h => simp [ByteArray.size] at h; omega

set_option maxHeartbeats 800000 in
theorem begins_any (s : ByteArray) (w : World) (hs : s.size ≤ 1048576) :
    Calls Try.prog 16 #[.string s] w fun e w' => e = .returned (.bool (begins s.data.toList)) ∧ w' = w := by
  by_cases h3 : 3 ≤ s.size
  · have hb := begins_three s h3
    by_cases c0 : ((s[0].toNat : Int) == 96) = true
    · by_cases c1 : ((s[1].toNat : Int) == 96) = true
      · have HB : Hid (begins s.data.toList = ((s[2].toNat : Int) == 96)) := by
          show begins s.data.toList = _
          rw [hb, c0, c1]; rfl
        clear hb
        go_enter Try.func16, Try.ntmps16
        go_wp2
        go_ret
        exact ⟨ret_bool HB.out.symm, rfl⟩
      · simp only [Bool.not_eq_true] at c1
        have HB : Hid (begins s.data.toList = false) := by
          show begins s.data.toList = _
          rw [hb, c1]; simp
        clear hb
        go_enter Try.func16, Try.ntmps16
        go_wp2
        go_ret
        exact ⟨ret_bool HB.out.symm, rfl⟩
    · simp only [Bool.not_eq_true] at c0
      have HB : Hid (begins s.data.toList = false) := by
        show begins s.data.toList = _
        rw [hb, c0]; rfl
      clear hb
      go_enter Try.func16, Try.ntmps16
      go_wp2
      go_ret
      exact ⟨ret_bool HB.out.symm, rfl⟩
  · have HB : Hid (begins s.data.toList = false) := begins_short s (by omega)
    go_enter Try.func16, Try.ntmps16
    go_wp2
    go_ret
    exact ⟨ret_bool HB.out.symm, rfl⟩

theorem isF_eq (l : List UInt8) : (l == fence) = (decide (l.length = 3) && begins l) := by
  match l with
  | [] => rfl
  | [a] => simp [fence]
  | [a, b] => simp [fence]
  | [a, b, c] =>
    show ((a == 96) && ((b == 96) && ((c == 96) && true))) = (true && (((96 : UInt8) == a) && (((96 : UInt8) == b) && (((96 : UInt8) == c) && true))))
    rw [BEq.comm (a := a), BEq.comm (a := b), BEq.comm (a := c)]; simp
  | a :: b :: c :: d :: t =>
    have : (decide ((a :: b :: c :: d :: t).length = 3)) = false := by simp
    rw [this, Bool.false_and]
    simp [fence]

set_option maxHeartbeats 800000 in
theorem isFence_any (s : ByteArray) (w : World) (hs : s.size ≤ 1048576) :
    Calls Try.prog 15 #[.string s] w fun e w' => e = .returned (.bool (s.data.toList == fence)) ∧ w' = w := by
  have hl : s.data.toList.length = s.size := by simp
  by_cases h3 : s.size = 3
  · have HB : Hid ((s.data.toList == fence) = begins s.data.toList) := by
      show (s.data.toList == fence) = _
      rw [isF_eq, hl, decide_eq_true h3]; rfl
    clear hl
    go_enter Try.func15, Try.ntmps15
    go_wp2_with (go_at_call 16; refine (begins_any _ _ hs).mono ?_; rintro e w' ⟨rfl, rfl⟩)
    go_ret
    exact ⟨ret_bool HB.out.symm, rfl⟩
  · have HB : Hid ((s.data.toList == fence) = false) := by
      show (s.data.toList == fence) = _
      rw [isF_eq, hl, decide_eq_false h3]; rfl
    have h3' : ((s.size : Int) == 3) = false := by simp; omega
    clear hl
    go_enter Try.func15, Try.ntmps15
    go_wp2
    go_ret
    exact ⟨ret_bool HB.out.symm, rfl⟩

def b1 (a : ByteArray) : Bool := decide (a.size ≤ 1048576)
theorem b1_true {a : ByteArray} (h : a.size ≤ 1048576) : true = b1 a := by unfold b1; simp [h]
theorem b1_false {a : ByteArray} (h : ¬ a.size ≤ 1048576) : false = b1 a := by unfold b1; simp; omega

set_option maxHeartbeats 800000 in
theorem bytes7 (a : ByteArray) (w : World) (h0 : a.size ≤ maxLen) :
    Calls Try.prog 7 #[.string a] w fun e w' => e = .returned (.bool (b1 a)) ∧ w' = w := by
  unfold maxLen at h0
  go_enter Try.func7, Try.ntmps7
  go_wp2
  all_goals
    go_ret
    refine ⟨ret_bool ?_, rfl⟩
    first | exact b1_true (by omega) | exact b1_false (by omega)
end Go.Proofs.Qxb6601375a
