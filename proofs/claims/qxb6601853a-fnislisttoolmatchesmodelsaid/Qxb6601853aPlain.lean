/-
  THE PLAIN MATHEMATICS: a list of bytes that ends in the suffix, its first underscore where the suffix begins. No Go in sight.
-/
import Derived.Lib.Strings
import Derived.Lib.Bytealg
import Derived.Lib.IndexLaws
namespace Go.Proofs.Qxb6601853a.Pl

/-- '_list_scripts'. -/
def suf : List UInt8 := [95, 108, 105, 115, 116, 95, 115, 99, 114, 105, 112, 116, 115]

/-- What isListTool answers. -/
def listL (s : List UInt8) : Bool := Lib.hasSuffix s suf && (!(Lib.trimSuffix s suf).isEmpty && !decide (0 ≤ Lib.indexByte (Lib.trimSuffix s suf) 95))

theorem suffix_at {s : List UInt8} (h : Lib.hasSuffix s suf = true) : 13 ≤ s.length ∧ s.drop (s.length - 13) = suf ∧ Lib.trimSuffix s suf = s.take (s.length - 13) := by
  have h1 : suf <:+ s := by simpa [Lib.hasSuffix] using h
  obtain ⟨t, rfl⟩ := h1
  have hl : suf.length = 13 := rfl
  refine ⟨by simp [hl], ?_, ?_⟩
  · rw [List.length_append, hl, Nat.add_sub_cancel]; simp
  · unfold Lib.trimSuffix; rw [if_pos h]; rfl

theorem at_suf {s : List UInt8} (h : Lib.hasSuffix s suf = true) (j : Nat) : s[s.length - 13 + j]? = suf[j]? := by
  obtain ⟨_, h2, _⟩ := suffix_at h
  rw [← List.getElem?_drop, h2]

theorem listL_true {s : List UInt8} (h : listL s = true) : Lib.hasSuffix s suf = true ∧ 13 < s.length ∧ ∀ j : Nat, j < s.length - 13 → s[j]? ≠ some 95 := by
  unfold listL at h
  simp only [Bool.and_eq_true, Bool.not_eq_true', decide_eq_false_iff_not] at h
  obtain ⟨h1, h2, h3⟩ := h
  obtain ⟨a, b, c⟩ := suffix_at h1
  rw [c] at h2 h3
  refine ⟨h1, ?_, ?_⟩
  · rcases Nat.lt_or_ge 13 s.length with h | h
    · exact h
    · rw [show s.length - 13 = 0 by omega] at h2
      simp at h2
  · intro j hj he
    have hm : Lib.indexByte (s.take (s.length - 13)) 95 = -1 := by
      have := Lib.indexByte_ge (s.take (s.length - 13)) 95
      omega
    have := Lib.indexByte_none hm j
    rw [List.getElem?_take, if_pos hj] at this
    exact this he

theorem list_short {s : List UInt8} (h : s.length ≤ 13) : listL s = false := by
  rcases hb : listL s with _ | _
  · rfl
  · have := (listL_true hb).2.1; omega

theorem list_none {s : List UInt8} (h : ∀ j : Nat, s[j]? ≠ some 95) : listL s = false := by
  rcases hb : listL s with _ | _
  · rfl
  · obtain ⟨h1, _, _⟩ := listL_true hb
    exact absurd (at_suf h1 0) (by rw [show suf[0]? = some 95 from rfl]; exact h _)

theorem list_first {s : List UInt8} {k : Nat} (h : s[k]? = some 95) (hn : ∀ j : Nat, j < k → s[j]? ≠ some 95) (hk : k ≠ s.length - 13) : listL s = false := by
  rcases hb : listL s with _ | _
  · rfl
  · obtain ⟨h1, h2, h3⟩ := listL_true hb
    rcases Nat.lt_or_gt_of_ne hk with hlt | hgt
    · exact absurd h (h3 k hlt)
    · exact absurd (at_suf h1 0) (by rw [show suf[0]? = some 95 from rfl]; exact hn _ (by omega))

theorem list_miss {s : List UInt8} {j : Nat} (hj : s[s.length - 13 + j]? ≠ suf[j]?) : listL s = false := by
  rcases hb : listL s with _ | _
  · rfl
  · exact absurd (at_suf (listL_true hb).1 j) hj

theorem list_all {s : List UInt8} (h13 : 13 < s.length) (hn : ∀ j : Nat, j < s.length - 13 → s[j]? ≠ some 95) (hj : ∀ j : Nat, j < 13 → s[s.length - 13 + j]? = suf[j]?) : listL s = true := by
  have hd : s.drop (s.length - 13) = suf := by
    apply List.ext_getElem?
    intro j
    rw [List.getElem?_drop]
    by_cases h : j < 13
    · exact hj j h
    · rw [List.getElem?_eq_none (by omega), List.getElem?_eq_none (by show 13 ≤ j; omega)]
  have hs : Lib.hasSuffix s suf = true := by
    unfold Lib.hasSuffix
    rw [List.isSuffixOf_iff_suffix]
    exact ⟨s.take (s.length - 13), by rw [← hd]; exact List.take_append_drop _ _⟩
  obtain ⟨_, _, c⟩ := suffix_at hs
  unfold listL
  rw [hs, c]
  have h2 : (s.take (s.length - 13)).isEmpty = false := by
    rw [List.isEmpty_eq_false_iff]
    intro e
    have := congrArg List.length e
    simp at this
    omega
  have h3 : ¬ 0 ≤ Lib.indexByte (s.take (s.length - 13)) 95 := by
    intro h0
    obtain ⟨i, hi⟩ : ∃ i : Nat, Lib.indexByte (s.take (s.length - 13)) 95 = i := ⟨(Lib.indexByte (s.take (s.length - 13)) 95).toNat, by omega⟩
    have h4 := (Lib.indexByte_some hi).1
    by_cases h5 : i < s.length - 13
    · rw [List.getElem?_take, if_pos h5] at h4
      exact hn i h5 h4
    · rw [List.getElem?_take, if_neg h5] at h4
      cases h4
  rw [h2, decide_eq_false h3]
  rfl
end Go.Proofs.Qxb6601853a.Pl
