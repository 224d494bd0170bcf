/-
  THE PLAIN MATHEMATICS OF THIS SEAT: a list of bytes split at every '/' (47). No Go in sight.
-/
import Derived.Lib.Strings
import Derived.Lib.Bytealg
import Derived.Lib.IndexLaws
namespace Go.Proofs.Qxb6600934a.Pl

/-- The pieces of a list of bytes at every '/': one more than it has slashes. -/
def splitL : List UInt8 → List (List UInt8)
  | [] => [[]]
  | c :: l => if c = 47 then [] :: splitL l else
    match splitL l with
    | h :: t => (c :: h) :: t
    | [] => [[c]]

/-- A text laid ahead of the first piece. -/
def consHead (p : List UInt8) : List (List UInt8) → List (List UInt8)
  | h :: t => (p ++ h) :: t
  | [] => [p]

theorem splitL_ne (l : List UInt8) : ∃ h t, splitL l = h :: t := by
  match l with
  | [] => exact ⟨[], [], rfl⟩
  | c :: l =>
    unfold splitL
    by_cases hc : c = 47
    · rw [if_pos hc]; exact ⟨_, _, rfl⟩
    · rw [if_neg hc]
      obtain ⟨h, t, e⟩ := splitL_ne l
      rw [e]; exact ⟨_, _, rfl⟩

theorem splitL_slash (l : List UInt8) : splitL (47 :: l) = [] :: splitL l := by
  rw [splitL, if_pos rfl]

theorem splitL_other (c : UInt8) (l : List UInt8) (hc : c ≠ 47) : splitL (c :: l) = consHead [c] (splitL l) := by
  rw [splitL, if_neg hc]
  obtain ⟨h, t, e⟩ := splitL_ne l
  rw [e]; rfl

theorem consHead_nil (l : List UInt8) : consHead [] (splitL l) = splitL l := by
  obtain ⟨h, t, e⟩ := splitL_ne l
  rw [e]; rfl

theorem consHead_two (p q : List UInt8) (l : List UInt8) : consHead p (consHead q (splitL l)) = consHead (p ++ q) (splitL l) := by
  obtain ⟨h, t, e⟩ := splitL_ne l
  rw [e]; simp [consHead]

theorem consHead_length (p : List UInt8) (l : List UInt8) : (consHead p (splitL l)).length = (splitL l).length := by
  obtain ⟨h, t, e⟩ := splitL_ne l
  rw [e]; rfl

theorem splitL_length (l : List UInt8) : (splitL l).length = l.count 47 + 1 := by
  induction l with
  | nil => rfl
  | cons c l ih =>
    by_cases hc : c = 47
    · subst hc; rw [splitL_slash]; simp [ih]
    · rw [splitL_other c l hc, consHead_length, ih, List.count_cons_of_ne hc]

end Go.Proofs.Qxb6600934a.Pl
