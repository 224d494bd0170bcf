/-
  inAlphabet and the closed form: what each answers.
-/
import Derived.Test.Qxb6601597aShelf
import Derived.Test.Qxb6601597aRows
import Derived.WalkKit
import Derived.ProofKit
import Derived.OpenShut
import Derived.ShutString
import Derived.WalkSpells
import Derived.WalkLawsBesides
import Derived.Lib.Strings
namespace Go.Proofs.Qxb6601597a
open Go.RowKit

theorem ret_bool {a b : Bool} (h : a = b) : Ending.returned (.bool a) = .returned (.bool b) := by rw [h]

/-- The closed form, at a number. -/
def okN (n : Nat) : Bool := (decide (46 ≤ n) && decide (n ≤ 57)) || (decide (65 ≤ n) && decide (n ≤ 90)) || (decide (97 ≤ n) && decide (n ≤ 122))
/-- The closed form, at a byte. -/
def okB (c : UInt8) : Bool := okN c.toNat
/-- The alphabet, as the Go text has it. -/
def alpha : List UInt8 := [46, 47, 48, 49, 50, 51, 52, 53, 54, 55, 56, 57, 65, 66, 67, 68, 69, 70, 71, 72, 73, 74, 75, 76, 77, 78, 79, 80, 81, 82, 83, 84, 85, 86, 87, 88, 89, 90, 97, 98, 99, 100, 101, 102, 103, 104, 105, 106, 107, 108, 109, 110, 111, 112, 113, 114, 115, 116, 117, 118, 119, 120, 121, 122]

set_option maxRecDepth 100000 in
theorem alpha_all : ∀ n : Fin 256, decide (0 ≤ Lib.indexByte alpha (UInt8.ofNat n.val)) = okN n.val := by decide +kernel

theorem alpha_at (c : UInt8) : decide (0 ≤ Lib.indexByte alpha c) = okB c := by
  have h := alpha_all ⟨c.toNat, c.toNat_lt⟩
  simpa [okB] using h

theorem byte_back (c : UInt8) : ((c.toNat : Int)).toNat.toUInt8 = c := by
  simp [Nat.toUInt8]

/-- What both answer. -/
def allB (s : ByteArray) : Bool := s.data.toList.all okB

theorem take_snoc (s : ByteArray) (k : Nat) (h : k < s.size) : s.data.toList.take (k + 1) = s.data.toList.take k ++ [s[k]] := by
  rw [List.take_succ_eq_append_getElem (by simpa using h)]; rfl
theorem all_round {s : ByteArray} {k : Nat} (h : k < s.size) (ha : (s.data.toList.take k).all okB = true) (hc : okB s[k] = true) : (s.data.toList.take (k + 1)).all okB = true := by
  rw [take_snoc s k h, List.all_append, ha]; simp [hc]
theorem all_end {s : ByteArray} {k : Nat} (h : ¬ k < s.size) (ha : (s.data.toList.take k).all okB = true) : allB s = true := by
  rw [List.take_of_length_le (by simp; omega)] at ha
  exact ha
theorem all_not {s : ByteArray} {k : Nat} (h : k < s.size) (hc : okB s[k] = false) : allB s = false := by
  unfold allB
  rw [List.all_eq_false]
  exact ⟨s[k], Array.getElem_mem_toList _, by rw [hc]; exact Bool.false_ne_true⟩

set_option maxHeartbeats 800000 in
theorem isAlpha_any (c : UInt8) (w : World) : Calls Try.prog 22 #[.int .u8 (c.toNat : Int)] w fun e w' => e = .returned (.bool (okB c)) ∧ w' = w := by
  have hc := c.toNat_lt
  unfold okB
  generalize c.toNat = n at *
  go_enter Try.func22, Try.ntmps22
  go_wp2
  all_goals
    go_ret
    refine ⟨ret_bool ?_, rfl⟩
    unfold okN
    rw [Bool.eq_iff_iff]
    simp
    omega

theorem neg_at (c : UInt8) : (Lib.indexByte alpha c < 0) ↔ okB c = false := by
  rw [← alpha_at c]
  simp

set_option maxHeartbeats 800000 in
theorem inAlphabet_any (s : ByteArray) (w : World) (hs : s.size ≤ 1048576) :
    Calls Try.prog 31 #[.string s] w fun e w' => e = .returned (.bool (allB s)) ∧ w' = w := by
  have hix : ∀ (c : UInt8) (w : World), Calls Try.prog 33 #[.string ⟨#[46, 47, 48, 49, 50, 51, 52, 53, 54, 55, 56, 57, 65, 66, 67, 68, 69, 70, 71, 72, 73, 74, 75, 76, 77, 78, 79, 80, 81, 82, 83, 84, 85, 86, 87, 88, 89, 90, 97, 98, 99, 100, 101, 102, 103, 104, 105, 106, 107, 108, 109, 110, 111, 112, 113, 114, 115, 116, 117, 118, 119, 120, 121, 122]⟩, .int .u8 (c.toNat : Int)] w
      fun e w' => ∃ x : Int, e = .returned (.int .i64 x) ∧ (x < 0 ↔ okB c = false) ∧ w' = w := fun c w =>
    (Try.strings_IndexByte _ _ w).mono fun e w' ⟨he, hw⟩ => ⟨_, he, by rw [byte_back]; exact neg_at c, hw⟩
  go_enter Try.func31, Try.ntmps31
  go_wp2
  go_loop [3] (fun i => ∃ k : Nat, k ≤ s.size ∧ i = .int .i64 k ∧ Hid ((s.data.toList.take k).all okB = true)) (fun i => s.size - (intOf i).toNat)
  case atStart => exact ⟨0, Nat.zero_le _, rfl, rfl⟩
  case round =>
    obtain ⟨k, hk, rfl, ha⟩ := hrel
    by_cases hlt : k < s.size
    · by_cases hc : okB s[k] = true
      · have ha' : Hid ((s.data.toList.take (k + 1)).all okB = true) := all_round hlt ha.out hc
        go_wp2_with fail
        refine (hix _ _).mono ?_
        rintro e w1 ⟨x, rfl, hx, rfl⟩
        have hx0 : 0 ≤ x := by
          have : ¬ x < 0 := fun h => by rw [hx.1 h] at hc; cases hc
          omega
        clear hx hc
        go_wp2
        go_round
        case rel => exact ⟨k + 1, by omega, by go_num, ha'⟩
        case measure => simp [intOf]; omega
      · simp only [Bool.not_eq_true] at hc
        have he : Hid (allB s = false) := all_not hlt hc
        go_wp2_with fail
        refine (hix _ _).mono ?_
        rintro e w1 ⟨x, rfl, hx, rfl⟩
        have hx0 : x < 0 := hx.2 hc
        clear hx hc
        go_wp2
        go_ret
        exact ⟨ret_bool he.out.symm, rfl⟩
    · have he : Hid (allB s = true) := all_end hlt ha.out
      go_wp2
      go_ret
      exact ⟨ret_bool he.out.symm, rfl⟩

set_option maxHeartbeats 400000 in
theorem zz_any (s : ByteArray) (w : World) (hs : s.size ≤ 1048576) :
    Calls Try.prog 19 #[.string s] w fun e w' => e = .returned (.bool (allB s)) ∧ w' = w := by
  go_enter Try.func19, Try.ntmps19
  go_wp2_with (go_at_call 31; refine (inAlphabet_any _ _ hs).mono ?_; rintro e w' ⟨rfl, rfl⟩)
  go_ret
  exact ⟨rfl, rfl⟩

def b1 (a : ByteArray) : Bool := decide (a.size ≤ 1048576)
theorem b1_true {a : ByteArray} (h : a.size ≤ 1048576) : true = b1 a := by unfold b1; simp [h]
theorem b1_false {a : ByteArray} (h : ¬ a.size ≤ 1048576) : false = b1 a := by unfold b1; simp; omega

set_option maxHeartbeats 800000 in
theorem bytes21 (a : ByteArray) (w : World) (h0 : a.size ≤ maxLen) :
    Calls Try.prog 21 #[.string a] w fun e w' => e = .returned (.bool (b1 a)) ∧ w' = w := by
  unfold maxLen at h0
  go_enter Try.func21, Try.ntmps21
  go_wp2
  all_goals
    go_ret
    refine ⟨ret_bool ?_, rfl⟩
    first | exact b1_true (by omega) | exact b1_false (by omega)

set_option maxHeartbeats 1600000 in
theorem law_walk (s : ByteArray) (w : World) (w0 : s.size ≤ maxLen) (hb : s.size ≤ 1048576) :
    Calls Try.prog 6 #[.string s] w fun e w' => e = .returned (.bool true) ∧ Grown w w' := by
  have hbt : b1 s = true := (b1_true hb).symm
  go_enter Try.func6, Try.ntmps6
  go_wp2_with (go_at_call 21; refine (bytes21 _ _ w0).mono ?_; rintro e w' ⟨rfl, rfl⟩)
  go_loop [3, 4] (fun b i => ∃ k : Nat, k ≤ s.size ∧ b = .bool true ∧ i = .int .i64 k ∧ Hid ((s.data.toList.take k).all okB = true)) (fun _ i => s.size - (intOf i).toNat)
  case atStart => exact ⟨0, Nat.zero_le _, rfl, rfl, rfl⟩
  case round =>
    obtain ⟨k, hk, rfl, rfl, ha⟩ := hrel
    by_cases hlt : k < s.size
    · by_cases hc : okB s[k] = true
      · have ha' : Hid ((s.data.toList.take (k + 1)).all okB = true) := all_round hlt ha.out hc
        go_wp2_with fail
        refine (isAlpha_any _ _).mono ?_
        rintro e w1 ⟨rfl, rfl⟩
        go_wp2
        go_round
        case rel => exact ⟨k + 1, by omega, rfl, by go_num, ha'⟩
        case measure => simp [intOf]; omega
      · simp only [Bool.not_eq_true] at hc
        have he : Hid (allB s = false) := all_not hlt hc
        go_wp2_with fail
        refine (isAlpha_any _ _).mono ?_
        rintro e w1 ⟨rfl, rfl⟩
        go_wp2_with (go_at_call 19; refine (zz_any _ _ hb).mono ?_; rintro e w' ⟨rfl, rfl⟩)
        go_ret
        exact ⟨ret_bool (by rw [he.out]; rfl), Grown.refl _⟩
    · have he : Hid (allB s = true) := all_end hlt ha.out
      go_wp2_with (go_at_call 19; refine (zz_any _ _ hb).mono ?_; rintro e w' ⟨rfl, rfl⟩)
      go_ret
      exact ⟨ret_bool he.out, Grown.refl _⟩
end Go.Proofs.Qxb6601597a
