/-
  THE PLAIN MATHEMATICS OF tierOf: names compared one by one. No Go in sight.
-/
import Derived.Test.Qxb6600934aPlain
namespace Go.Proofs.Qxb6600934a.Pl

/-- The text ahead of the first '/'. -/
def headL (l : List UInt8) : List UInt8 := l.takeWhile (fun c => c != 47)
/-- The text behind the first '/', nothing where there is none. -/
def restL (l : List UInt8) : List UInt8 := (l.dropWhile (fun c => c != 47)).drop 1

theorem splitL_none (l : List UInt8) (h : 47 ∉ l) : splitL l = [l] ∧ headL l = l ∧ restL l = [] := by
  induction l with
  | nil => exact ⟨rfl, rfl, rfl⟩
  | cons c l ih =>
    simp only [List.mem_cons, not_or] at h
    obtain ⟨h1, h2⟩ := h
    have hc : c ≠ 47 := fun e => h1 e.symm
    obtain ⟨i1, i2, i3⟩ := ih h2
    refine ⟨by rw [splitL_other c l hc, i1]; rfl, ?_, ?_⟩
    · unfold headL at i2 ⊢
      rw [List.takeWhile_cons_of_pos (by simpa using hc), i2]
    · unfold restL at i3 ⊢
      rw [List.dropWhile_cons_of_pos (by simpa using hc), i3]

theorem splitL_some (l : List UInt8) (h : 47 ∈ l) : splitL l = headL l :: splitL (restL l) := by
  induction l with
  | nil => simp at h
  | cons c l ih =>
    by_cases hc : c = 47
    · subst hc
      rw [splitL_slash]
      unfold headL restL
      rw [List.takeWhile_cons_of_neg (by simp), List.dropWhile_cons_of_neg (by simp)]
      rfl
    · have h2 : 47 ∈ l := by
        rcases List.mem_cons.1 h with e | e
        · exact absurd e.symm hc
        · exact e
      rw [splitL_other c l hc, ih h2]
      unfold headL restL
      rw [List.takeWhile_cons_of_pos (by simpa using hc), List.dropWhile_cons_of_pos (by simpa using hc)]
      rfl

theorem restL_lt (l : List UInt8) (h : l ≠ []) : (restL l).length < l.length := by
  unfold restL
  have h1 : (l.dropWhile (fun c => c != 47)).length ≤ l.length := (List.dropWhile_suffix _).length_le
  have h2 : 0 < l.length := List.length_pos_iff.2 h
  rw [List.length_drop]
  omega

/-- How many of the names take part: all but an empty last one. -/
def cmpN (n : List (List UInt8)) : List (List UInt8) := if n.getLast? = some [] then n.dropLast else n
/-- The names of a locality that take part in a comparison. -/
def cmpL (l : List UInt8) : List (List UInt8) := if l = [] then [] else cmpN (splitL l)

theorem cmpL_nil : cmpL [] = [] := rfl

theorem cmpL_step (l : List UInt8) (h : l ≠ []) : cmpL l = headL l :: cmpL (restL l) := by
  unfold cmpL
  rw [if_neg h]
  by_cases hs : 47 ∈ l
  · rw [splitL_some l hs]
    by_cases hr : restL l = []
    · rw [if_pos hr, hr]; rfl
    · rw [if_neg hr]
      obtain ⟨a, t, e⟩ := splitL_ne (restL l)
      unfold cmpN
      rw [e, List.getLast?_cons_cons, List.dropLast_cons_of_ne_nil (by simp)]
      split <;> rfl
  · obtain ⟨h1, h2, h3⟩ := splitL_none l hs
    rw [h1, h2, h3]
    unfold cmpN
    rw [if_neg (by simpa using h)]
    rfl

/-- How many names the two share from the first on. -/
def pre : List (List UInt8) → List (List UInt8) → Nat
  | a :: x, b :: y => if a = b then pre x y + 1 else 0
  | _, _ => 0

theorem pre_nil_right (x : List (List UInt8)) : pre x [] = 0 := by cases x <;> rfl
theorem pre_nil_left (x : List (List UInt8)) : pre [] x = 0 := rfl
theorem pre_le (x y : List (List UInt8)) : pre x y ≤ x.length := by
  induction x generalizing y with
  | nil => simp [pre]
  | cons a x ih =>
    cases y with
    | nil => simp [pre]
    | cons b y =>
      unfold pre
      have := ih y
      split <;> simp <;> omega

theorem cmpL_le (l : List UInt8) : (cmpL l).length ≤ l.count 47 + 1 := by
  unfold cmpL
  split
  · simp
  · have := splitL_length l
    unfold cmpN
    split
    · simp; omega
    · omega

theorem pre_same {c l : List UInt8} (hc : c ≠ []) (hl : l ≠ []) (h : headL c = headL l) : pre (cmpL c) (cmpL l) = pre (cmpL (restL c)) (cmpL (restL l)) + 1 := by
  rw [cmpL_step c hc, cmpL_step l hl, pre, if_pos h]

theorem pre_diff {c l : List UInt8} (hc : c ≠ []) (hl : l ≠ []) (h : headL c ≠ headL l) : pre (cmpL c) (cmpL l) = 0 := by
  rw [cmpL_step c hc, cmpL_step l hl, pre, if_neg h]

theorem pre_empty {c l : List UInt8} (h : c = [] ∨ l = []) : pre (cmpL c) (cmpL l) = 0 := by
  rcases h with rfl | rfl
  · rw [cmpL_nil]; rfl
  · rw [cmpL_nil, pre_nil_right]

/-- How many names a locality has. -/
def nNames (l : List UInt8) : Nat := if l = [] then 0 else l.count 47 + 1

theorem pre_names (c l : List UInt8) : pre (cmpL c) (cmpL l) ≤ nNames c := by
  have h1 := pre_le (cmpL c) (cmpL l)
  have h2 := cmpL_le c
  unfold nNames
  split
  · rename_i h; subst h; rw [cmpL_nil, pre_nil_left]; exact Nat.le_refl _
  · omega

/-! ### By places: what Cut and zzFirstName hand back -/
theorem head_at : ∀ (l : List UInt8) (i : Nat), l[i]? = some 47 → (∀ j, j < i → l[j]? ≠ some 47) → headL l = l.take i ∧ restL l = l.drop (i + 1)
  | [], i, h, _ => by simp at h
  | c :: l, 0, h, _ => by
    simp at h; subst h
    unfold headL restL
    rw [List.takeWhile_cons_of_neg (by simp), List.dropWhile_cons_of_neg (by simp)]
    exact ⟨rfl, rfl⟩
  | c :: l, i + 1, h, hn => by
    have hc : c ≠ 47 := by
      have := hn 0 (by omega)
      simpa using this
    obtain ⟨h1, h2⟩ := head_at l i (by simpa using h) (fun j hj => by have := hn (j + 1) (by omega); simpa using this)
    unfold headL at h1 ⊢
    unfold restL at h2 ⊢
    rw [List.takeWhile_cons_of_pos (by simpa using hc), List.dropWhile_cons_of_pos (by simpa using hc), h1, h2]
    exact ⟨rfl, rfl⟩

theorem head_none (l : List UInt8) (h : ∀ j : Nat, l[j]? ≠ some 47) : headL l = l ∧ restL l = [] := by
  have : 47 ∉ l := by
    intro hm
    obtain ⟨j, hj⟩ := List.getElem?_of_mem hm
    exact h j hj
  exact (splitL_none l this).2

end Go.Proofs.Qxb6600934a.Pl
