/-
  THE PLAIN MATHEMATICS OF THIS SEAT: the lines of a text; the blocks of its lines. No Go in sight.
-/
import Derived.Lib.Strings
import Derived.Lib.Bytealg
import Derived.Lib.IndexLaws
namespace Go.Proofs.Qxb6601375a.Pl

/-- The lines of a text, without their newlines; a last piece without a newline is a line if it is not empty. -/
def linesL : List UInt8 → List (List UInt8)
  | [] => []
  | c :: l => if c = 10 then [] :: linesL l else
    match linesL l with
    | h :: t => (c :: h) :: t
    | [] => [[c]]

/-- A text laid ahead of the first line; an empty text is no line. -/
def consP (p : List UInt8) : List (List UInt8) → List (List UInt8)
  | h :: t => (p ++ h) :: t
  | [] => if p = [] then [] else [p]

theorem consP_nil (L : List (List UInt8)) : consP [] L = L := by cases L <;> rfl

theorem linesL_nl (l : List UInt8) : linesL (10 :: l) = [] :: linesL l := by rw [linesL, if_pos rfl]
theorem linesL_other (c : UInt8) (l : List UInt8) (h : c ≠ 10) : linesL (c :: l) = consP [c] (linesL l) := by
  rw [linesL, if_neg h]
  cases linesL l <;> rfl
theorem consP_two (p q : List UInt8) (hq : q ≠ []) (L : List (List UInt8)) : consP p (consP q L) = consP (p ++ q) L := by
  cases L with
  | nil => simp [consP, hq]
  | cons h t => simp [consP]

/-- The first line and what is behind it, by the first newline's place. -/
theorem lines_at : ∀ (l : List UInt8) (i : Nat), l[i]? = some 10 → (∀ j : Nat, j < i → l[j]? ≠ some 10) → linesL l = l.take i :: linesL (l.drop (i + 1))
  | [], i, h, _ => by simp at h
  | c :: l, 0, h, _ => by
    simp at h; subst h
    rw [linesL_nl]; rfl
  | c :: l, i + 1, h, hn => by
    have hc : c ≠ 10 := by
      have := hn 0 (by omega)
      simpa using this
    have ih := lines_at l i (by simpa using h) (fun j hj => by have := hn (j + 1) (by omega); simpa using this)
    rw [linesL_other c l hc, ih]
    rfl

theorem lines_none : ∀ (l : List UInt8), l ≠ [] → (∀ j : Nat, l[j]? ≠ some 10) → linesL l = [l]
  | [], h, _ => absurd rfl h
  | c :: l, _, hn => by
    have hc : c ≠ 10 := by
      have := hn 0
      simpa using this
    rw [linesL_other c l hc]
    by_cases hl : l = []
    · subst hl; rfl
    · rw [lines_none l hl (fun j => by have := hn (j + 1); simpa using this)]
      rfl

/-- What TrimSuffix with a newline makes of a piece. -/
def trim (x : List UInt8) : List UInt8 := Lib.trimSuffix x [10]

theorem trim_nl (h : List UInt8) : trim (h ++ [10]) = h := by
  unfold trim Lib.trimSuffix
  have : Lib.hasSuffix (h ++ [10]) [10] = true := by
    unfold Lib.hasSuffix
    rw [List.isSuffixOf_iff_suffix]
    exact List.suffix_append _ _
  rw [if_pos this]
  simp

theorem trim_none (x : List UInt8) (hn : ∀ j : Nat, x[j]? ≠ some 10) : trim x = x := by
  unfold trim Lib.trimSuffix
  rw [if_neg]
  intro h
  unfold Lib.hasSuffix at h
  rw [List.isSuffixOf_iff_suffix] at h
  obtain ⟨t, rfl⟩ := h
  exact hn t.length (by simp)

/-- A step of the iterator: the piece that comes, what is left. -/
theorem piece_hit {r : List UInt8} {i : Nat} (h : r[i]? = some 10) (hn : ∀ j : Nat, j < i → r[j]? ≠ some 10) : linesL r = trim (r.take (i + 1)) :: linesL (r.drop (i + 1)) := by
  have e : r.take (i + 1) = r.take i ++ [10] := by
    rw [List.take_add_one, h]; rfl
  rw [e, trim_nl]
  exact lines_at r i h hn

theorem piece_last {r : List UInt8} (hr : r ≠ []) (hn : ∀ j : Nat, r[j]? ≠ some 10) : linesL r = trim r :: linesL [] := by
  rw [trim_none r hn, lines_none r hr hn]; rfl

/-! ### The blocks of a list of lines -/
abbrev Blk := List UInt8 × List (List UInt8)
/-- Three backquotes. -/
def fence : List UInt8 := [96, 96, 96]
/-- A line laid behind the last block's lines. -/
def addLast : List Blk → List UInt8 → List Blk
  | [], _ => []
  | [b], x => [(b.1, b.2 ++ [x])]
  | b :: b' :: bs, x => b :: addLast (b' :: bs) x

/-- Are the lines behind this one inside a block? -/
def inside (i : Bool) (x : List UInt8) : Bool := if i then !(x == fence) else Lib.hasPrefix x fence
/-- One line. -/
def step (s : Bool × List Blk) (x : List UInt8) : Bool × List Blk :=
  (inside s.1 x, if inside s.1 x then (if s.1 then addLast s.2 x else s.2 ++ [(x.drop 3, [])]) else s.2)
/-- All lines. -/
def run (ls : List (List UInt8)) : Bool × List Blk := ls.foldl step (false, [])

theorem run_snoc (ls : List (List UInt8)) (x : List UInt8) : run (ls ++ [x]) = step (run ls) x := by simp [run]

theorem addLast_snoc (bs : List Blk) (b : Blk) (x : List UInt8) : addLast (bs ++ [b]) x = bs ++ [(b.1, b.2 ++ [x])] := by
  induction bs with
  | nil => rfl
  | cons a bs ih =>
    cases bs with
    | nil => rfl
    | cons c cs => simp only [List.cons_append] at ih ⊢; rw [addLast, ih]

theorem addLast_length (bs : List Blk) (x : List UInt8) : (addLast bs x).length = bs.length := by
  induction bs with
  | nil => rfl
  | cons a bs ih =>
    cases bs with
    | nil => rfl
    | cons c cs => rw [addLast, List.length_cons, ih]; rfl

theorem step_inside (s : Bool × List Blk) (x : List UInt8) (hs : s.1 = true → ∃ bs b, s.2 = bs ++ [b]) (h : (step s x).1 = true) : ∃ bs b, (step s x).2 = bs ++ [b] := by
  have h' : inside s.1 x = true := h
  unfold step
  simp only [h', if_true]
  cases hb : s.1 with
  | true =>
    obtain ⟨bs, b, e⟩ := hs hb
    simp only [if_true]
    rw [e, addLast_snoc]
    exact ⟨_, _, rfl⟩
  | false => exact ⟨_, _, rfl⟩

theorem fold_inside (ls : List (List UInt8)) : ∀ s : Bool × List Blk, (s.1 = true → ∃ bs b, s.2 = bs ++ [b]) → (ls.foldl step s).1 = true → ∃ bs b, (ls.foldl step s).2 = bs ++ [b] := by
  induction ls with
  | nil => intro s hs h; exact hs h
  | cons x ls ih => intro s hs h; exact ih (step s x) (step_inside s x hs) h

/-- Inside a block there is a block. -/
theorem run_inside (ls : List (List UInt8)) (h : (run ls).1 = true) : ∃ bs b, (run ls).2 = bs ++ [b] :=
  fold_inside ls (false, []) (fun h => by cases h) h

theorem step_len (s : Bool × List Blk) (x : List UInt8) : (step s x).2.length ≤ s.2.length + 1 := by
  unfold step
  split
  · split
    · rw [addLast_length]; omega
    · simp
  · show s.2.length ≤ s.2.length + 1; omega
theorem fold_len (ls : List (List UInt8)) : ∀ s : Bool × List Blk, (ls.foldl step s).2.length ≤ s.2.length + ls.length := by
  induction ls with
  | nil => intro s; simp
  | cons x ls ih =>
    intro s
    have h1 := ih (step s x)
    have h2 := step_len s x
    simp only [List.foldl_cons, List.length_cons]
    omega
theorem run_len (ls : List (List UInt8)) : (run ls).2.length ≤ ls.length := by
  have := fold_len ls (false, [])
  simpa [run] using this

theorem addLast_lines (bs : List Blk) (x : List UInt8) (m : Nat) (h : ∀ b ∈ bs, b.2.length ≤ m) : ∀ b ∈ addLast bs x, b.2.length ≤ m + 1 := by
  induction bs with
  | nil => intro b hb; cases hb
  | cons a bs ih =>
    cases bs with
    | nil =>
      intro b hb
      simp only [addLast, List.mem_singleton] at hb
      subst hb
      have := h a (by simp)
      simp; omega
    | cons c cs =>
      intro b hb
      rw [addLast] at hb
      rcases List.mem_cons.1 hb with e | e
      · subst e; have := h b (by simp); omega
      · exact ih (fun b hb => h b (List.mem_cons_of_mem _ hb)) b e
theorem step_lines (s : Bool × List Blk) (x : List UInt8) (m : Nat) (h : ∀ b ∈ s.2, b.2.length ≤ m) : ∀ b ∈ (step s x).2, b.2.length ≤ m + 1 := by
  unfold step
  split
  · split
    · exact addLast_lines s.2 x m h
    · intro b hb
      rcases List.mem_append.1 hb with e | e
      · have := h b e; omega
      · simp only [List.mem_singleton] at e; subst e; simp
  · intro b hb; have := h b hb; omega
theorem fold_lines (ls : List (List UInt8)) : ∀ (s : Bool × List Blk) (m : Nat), (∀ b ∈ s.2, b.2.length ≤ m) → ∀ b ∈ (ls.foldl step s).2, b.2.length ≤ m + ls.length := by
  induction ls with
  | nil => intro s m h; exact h
  | cons x ls ih =>
    intro s m h b hb
    have := ih (step s x) (m + 1) (step_lines s x m h) b hb
    simp only [List.length_cons]; omega
theorem run_lines (ls : List (List UInt8)) : ∀ b ∈ (run ls).2, b.2.length ≤ ls.length := by
  intro b hb
  have := fold_lines ls (false, []) 0 (fun b hb => by cases hb) b hb
  omega

end Go.Proofs.Qxb6601375a.Pl
