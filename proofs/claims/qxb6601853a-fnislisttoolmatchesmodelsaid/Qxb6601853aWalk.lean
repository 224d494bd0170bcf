/-
  isListTool, and the model's two loops: what each answers.
-/
import Derived.Test.Qxb6601853aShelf
import Derived.Test.Qxb6601853aRows
import Derived.Test.Qxb6601853aPlain
import Derived.WalkKit
import Derived.ProofKit
import Derived.OpenShut
import Derived.ShutString
import Derived.WalkSpells
import Derived.WalkLawsBesides
import Derived.Deep.QuietTactic
import Derived.BigQuiet
import Derived.Lib.Strings
namespace Go.Proofs.Qxb6601853a
open Go.RowKit
open Pl

theorem ret_bool {a b : Bool} (h : a = b) : Ending.returned (.bool a) = .returned (.bool b) := by rw [h]

def listB (s : ByteArray) : Bool := listL s.data.toList
def sufB (s : ByteArray) : Bool := Lib.hasSuffix s.data.toList suf

theorem cut_any (s : ByteArray) (w : World) (hs : s.size ≤ 1048576) :
    Calls Try.prog 20 #[.string s, .string ⟨#[95, 108, 105, 115, 116, 95, 115, 99, 114, 105, 112, 116, 115]⟩] w fun e w' => ∃ wd : ByteArray, e = .returned (.tuple #[.string wd, .bool (sufB s)]) ∧
      Hid (wd.data.toList = Lib.trimSuffix s.data.toList suf) ∧ w' = w :=
  (Try.strings_CutSuffix s _ w (by omega)).mono fun e w' ⟨he, hw⟩ => ⟨_, he, rfl, hw⟩

theorem cont_any (s : ByteArray) (w : World) :
    Calls Try.prog 21 #[.string s, .string ⟨#[95]⟩] w fun e w' => ∃ b : Bool, e = .returned (.bool b) ∧ Hid (b = decide (0 ≤ Lib.indexByte s.data.toList 95)) ∧ w' = w :=
  (Try.strings_Contains_one s 95 w).mono fun _ _ ⟨he, hw⟩ => ⟨_, he, rfl, hw⟩

set_option maxHeartbeats 800000 in
theorem isList_any (s : ByteArray) (w : World) (hs : s.size ≤ 1048576) :
    Calls Try.prog 18 #[.string s] w fun e w' => e = .returned (.bool (listB s)) ∧ w' = w := by
  by_cases hh : sufB s = true
  · go_enter Try.func18, Try.ntmps18
    go_wp2_with fail
    refine (cut_any _ _ hs).mono ?_
    rintro e w1 ⟨wd, rfl, hwd, rfl⟩
    by_cases he : wd.toList.isEmpty = true
    · go_wp2
      go_ret
      refine ⟨ret_bool ?_, rfl⟩
      rw [Lib.toList_data, hwd.out] at he
      unfold listB listL
      rw [he]
      simp
    · simp only [Bool.not_eq_true] at he
      go_wp2_with fail
      refine (cont_any _ _).mono ?_
      rintro e w1 ⟨b, rfl, hb, rfl⟩
      go_wp2
      go_ret
      refine ⟨ret_bool ?_, rfl⟩
      rw [Lib.toList_data, hwd.out] at he
      have hb' := hb.out
      rw [hwd.out] at hb'
      unfold sufB at hh
      unfold listB listL
      rw [he, hh, ← hb']
      simp
  · simp only [Bool.not_eq_true] at hh
    go_enter Try.func18, Try.ntmps18
    go_wp2_with fail
    refine (cut_any _ _ hs).mono ?_
    rintro e w1 ⟨wd, rfl, hwd, rfl⟩
    go_wp2
    go_ret
    refine ⟨ret_bool ?_, rfl⟩
    unfold sufB at hh
    unfold listB listL
    rw [hh]
    rfl

set_option maxHeartbeats 400000 in
theorem zz_any (s : ByteArray) (w : World) (hs : s.size ≤ 1048576) :
    Calls Try.prog 13 #[.string s] w fun e w' => e = .returned (.bool (listB s)) ∧ w' = w := by
  go_enter Try.func13, Try.ntmps13
  go_wp2_with (go_at_call 18; refine (isList_any _ _ hs).mono ?_; rintro e w' ⟨rfl, rfl⟩)
  go_ret
  exact ⟨rfl, rfl⟩

def b1 (a : ByteArray) : Bool := decide (a.size ≤ 1048576)
theorem b1_true {a : ByteArray} (h : a.size ≤ 1048576) : true = b1 a := by unfold b1; simp [h]
theorem b1_false {a : ByteArray} (h : ¬ a.size ≤ 1048576) : false = b1 a := by unfold b1; simp; omega

set_option maxHeartbeats 800000 in
theorem bytes12 (a : ByteArray) (w : World) (h0 : a.size ≤ maxLen) :
    Calls Try.prog 12 #[.string a] w fun e w' => e = .returned (.bool (b1 a)) ∧ w' = w := by
  unfold maxLen at h0
  go_enter Try.func12, Try.ntmps12
  go_wp2
  all_goals
    go_ret
    refine ⟨ret_bool ?_, rfl⟩
    first | exact b1_true (by omega) | exact b1_false (by omega)

theorem get_at (s : ByteArray) (k : Nat) (h : k < s.size) : s.data.toList[k]? = some s[k] := by
  rw [List.getElem?_eq_getElem (by simpa using h)]; rfl
theorem byte_is {c d : UInt8} (h : ((c.toNat : Int) == (d.toNat : Int)) = true) : c = d := by
  simp only [beq_iff_eq] at h
  exact UInt8.toNat_inj.1 (by omega)
theorem byte_not {c d : UInt8} (h : ((c.toNat : Int) == (d.toNat : Int)) = false) : c ≠ d := by
  intro e
  subst e
  simp at h

/-- No underscore ahead of k. -/
def Clear (s : ByteArray) (k : Nat) : Prop := ∀ j : Nat, j < k → s.data.toList[j]? ≠ some 95
theorem clear_round {s : ByteArray} {k : Nat} (h : k < s.size) (hc : Clear s k) (hb : ((s[k].toNat : Int) == 95) = false) : Clear s (k + 1) := by
  intro j hj
  by_cases e : j = k
  · subst e
    rw [get_at s j h]
    intro e2
    exact byte_not (d := 95) hb (Option.some.inj e2)
  · exact hc j (by omega)
theorem clear_end {s : ByteArray} {k : Nat} (h : ¬ k < s.size) (hc : Clear s k) : ∀ j : Nat, s.data.toList[j]? ≠ some 95 := by
  intro j
  by_cases hj : j < k
  · exact hc j hj
  · rw [List.getElem?_eq_none (by simp; omega)]; simp

set_option maxHeartbeats 1600000 in
theorem law_short (s : ByteArray) (w : World) (w0 : s.size ≤ maxLen) (hb : s.size ≤ 1048576) (h13 : s.size ≤ 13) :
    Calls Try.prog 5 #[.string s] w fun e w' => e = .returned (.bool true) ∧ Grown w w' := by
  have hbt : b1 s = true := (b1_true hb).symm
  have he : Hid (listB s = false) := list_short (by simpa using h13)
  go_enter Try.func5, Try.ntmps5
  go_wp2_with (first | (go_at_call 12; refine (bytes12 _ _ w0).mono ?_; rintro e w' ⟨rfl, rfl⟩) | (go_at_call 13; refine (zz_any _ _ hb).mono ?_; rintro e w' ⟨rfl, rfl⟩))
  go_ret
  exact ⟨ret_bool (by rw [he.out]; rfl), Grown.refl _⟩

/-- The first j bytes from k on are the suffix's. -/
def Agree (s : ByteArray) (k j : Nat) : Prop := ∀ i : Nat, i < j → s.data.toList[k + i]? = suf[i]?

theorem agree_round {s : ByteArray} {k j m : Nat} {c : UInt8} (hm : m = k + j) (hms : m < s.size) (h : Agree s k j) (hc : suf[j]? = some c) (hq : ((s[m].toNat : Int) == (c.toNat : Int)) = true) : Agree s k (j + 1) := by
  intro i hi
  by_cases e : i = j
  · subst e
    rw [← hm, get_at s m hms, hc, byte_is hq]
  · exact h i (by omega)
theorem agree_miss {s : ByteArray} {k j m : Nat} {c : UInt8} (hk : k = s.size - 13) (hl : s.data.toList.length = s.size) (hm : m = k + j) (hms : m < s.size) (hc : suf[j]? = some c) (hq : ((s[m].toNat : Int) == (c.toNat : Int)) = false) : listB s = false := by
  refine list_miss (j := j) ?_
  rw [hl, ← hk, ← hm, get_at s m hms, hc]
  intro e
  exact byte_not hq (Option.some.inj e)
theorem agree_end {s : ByteArray} {k j : Nat} (hk : k = s.size - 13) (hl : s.data.toList.length = s.size) (h13 : 13 < s.size) (hcl : Clear s k) (hj : 13 ≤ j) (h : Agree s k j) : listB s = true := by
  refine list_all (by rw [hl]; exact h13) ?_ ?_
  · rw [hl, ← hk]; exact hcl
  · intro i hi
    rw [hl, ← hk]; exact h i (by omega)
theorem grown_drewN (w : World) (n : Nat) : Grown w (w.drewN n) := Grown.refl w
theorem wrap_sum (k j : Nat) (hk : k ≤ 1048576) (hj : j ≤ 13) : IntKind.i64.wrap ((k : Int) + (j : Int)) = ((k + j : Nat) : Int) := by
  rw [IntKind.wrap_i64]; omega
theorem suf_index (j : Nat) (hj : j < 13) : ∃ c : UInt8, Hid (suf[j]? = some c) ∧
    ∀ w : World, (Instr.index 9 (.string ⟨#[95, 108, 105, 115, 116, 95, 115, 99, 114, 105, 112, 116, 115]⟩) (.int .i64 (j : Int))).run Try.prog w = .ok (.int .u8 (c.toNat : Int)) w := by
  refine ⟨suf[j]'(by show j < 13; exact hj), by show suf[j]? = _; rw [List.getElem?_eq_getElem (by show j < 13; exact hj)], fun w => ?_⟩
  rw [run_index_string w 9 _ .i64 (j : Int) Try.underlying9, dif_pos ⟨by omega, by show (j : Int) < 13; omega⟩]
  rfl

set_option maxHeartbeats 3200000 in
theorem law_long (s : ByteArray) (w : World) (w0 : s.size ≤ maxLen) (hb : s.size ≤ 1048576) (h13 : 13 < s.size) :
    Calls Try.prog 5 #[.string s] w fun e w' => e = .returned (.bool true) ∧ Grown w w' := by
  have hbt : b1 s = true := (b1_true hb).symm
  have hlen : Hid (s.data.toList.length = s.size) := by show s.data.toList.length = s.size; simp
  go_enter Try.func5, Try.ntmps5
  go_wp2_with (go_at_call 12; refine (bytes12 _ _ w0).mono ?_; rintro e w' ⟨rfl, rfl⟩)
  go_loop [6, 7] (fun f i => ∃ k : Nat, k ≤ s.size ∧ f = .int .i64 (-1) ∧ i = .int .i64 k ∧ Clear s k) (fun _ i => s.size - (intOf i).toNat)
  case atStart => exact ⟨0, Nat.zero_le _, rfl, rfl, fun j hj => absurd hj (Nat.not_lt_zero _)⟩
  case round =>
    obtain ⟨k, hk, rfl, rfl, hcl⟩ := hrel
    by_cases hlt : k < s.size
    · by_cases hq : ((s[k].toNat : Int) == 95) = true
      · have hget : Hid (s.data.toList[k]? = some 95) := by
          show s.data.toList[k]? = some 95
          rw [get_at s k hlt, byte_is (d := 95) hq]
        by_cases hkn : k = s.size - 13
        · have hkn' : ((k : Int) == (s.size : Int) - 13) = true := by simp; omega
          have hk1 : k + 13 ≤ s.size := by omega
          have hk2 : Hid (k = s.size - 13) := hkn
          clear hkn
          go_wp2
          go_loopw [5, 8] (fun b i wr => ∃ j n : Nat, j ≤ 13 ∧ b = .bool true ∧ i = .int .i64 j ∧ Agree s k j ∧ wr = w'.drewN n) (fun _ i _ => 13 - (intOf i).toNat)
          case atStart => exact ⟨0, 0, Nat.zero_le _, rfl, rfl, fun j hj => absurd hj (Nat.not_lt_zero _), rfl⟩
          case round =>
            obtain ⟨j, n, hj, rfl, rfl, hag, rfl⟩ := hrel
            by_cases hj13 : j < 13
            · obtain ⟨m, hm⟩ : ∃ m, Hid (m = k + j) := ⟨_, rfl⟩
              have hwrap : IntKind.i64.wrap ((k : Int) + (j : Int)) = (m : Int) := by rw [hm.out]; exact wrap_sum k j (by omega) (by omega)
              have hms : m < s.size := by rw [hm.out]; omega
              obtain ⟨c, hcj, hidx⟩ := suf_index j hj13
              by_cases hq2 : ((s[m].toNat : Int) == (c.toNat : Int)) = true
              · have hag' := agree_round hm.out hms hag hcj.out hq2
                go_wp2
                go_quiet (fail)
                go_wp2
                go_roundw
                case rel => exact ⟨j + 1, _, by omega, rfl, by go_num, hag', rfl⟩
                case measure => simp [intOf]; omega
              · simp only [Bool.not_eq_true] at hq2
                have he : Hid (listB s = false) := agree_miss hk2.out hlen.out hm.out hms hcj.out hq2
                go_wp2
                go_quiet (fail)
                go_wp2_with (go_at_call 13; refine (zz_any _ _ hb).mono ?_; rintro e w' ⟨rfl, rfl⟩)
                go_ret
                exact ⟨ret_bool (by rw [he.out]; rfl), grown_drewN _ _⟩
            · have he : Hid (listB s = true) := agree_end hk2.out hlen.out h13 hcl (by omega) hag
              go_wp2_with (go_at_call 13; refine (zz_any _ _ hb).mono ?_; rintro e w' ⟨rfl, rfl⟩)
              go_ret
              exact ⟨ret_bool he.out, grown_drewN _ _⟩
        · have he : Hid (listB s = false) := list_first hget.out hcl (by rw [hlen.out]; exact hkn)
          have hkn' : ((k : Int) == (s.size : Int) - 13) = false := by simp; omega
          go_wp2_with (go_at_call 13; refine (zz_any _ _ hb).mono ?_; rintro e w' ⟨rfl, rfl⟩)
          go_ret
          exact ⟨ret_bool (by rw [he.out]; rfl), Grown.refl _⟩
      · simp only [Bool.not_eq_true] at hq
        have hcl' := clear_round hlt hcl hq
        go_wp2
        go_round
        case rel => exact ⟨k + 1, by omega, rfl, by go_num, hcl'⟩
        case measure => simp [intOf]; omega
    · have he : Hid (listB s = false) := list_none (clear_end hlt hcl)
      go_wp2_with (go_at_call 13; refine (zz_any _ _ hb).mono ?_; rintro e w' ⟨rfl, rfl⟩)
      go_ret
      exact ⟨ret_bool (by rw [he.out]; rfl), Grown.refl _⟩
end Go.Proofs.Qxb6601853a
