/-
  A SLICE OF BLOCKS IN MEMORY THAT THE CALL ITSELF MADE: a row of two cells a block (its info, its slice of lines), each slice of lines a row of its own.
-/
import Derived.Test.Qxb6601375aPlain
import Derived.RangeFuncBox
import Derived.Laws.OwnMore
namespace Go.Proofs.Qxb6601375a
open Go Go.RowKit
open Pl

def mk (l : List UInt8) : ByteArray := ⟨l.toArray⟩
def str (l : List UInt8) : Value := .string (mk l)
theorem mk_of {x : ByteArray} {l : List UInt8} (h : x.data.toList = l) : x = mk l := by
  subst h; cases x; rfl
theorem mk_list (l : List UInt8) : (mk l).data.toList = l := by simp [mk]

/-- The cells of a row of blocks. -/
def flat : List Blk → List Value → List Value
  | b :: bs, v :: vs => str b.1 :: v :: flat bs vs
  | _, _ => []

/-- Blocks that are shut: each slice of lines owns its row, below block c. -/
def Done (base c : Nat) (W : World) : List Blk → List Value → Prop
  | [], [] => True
  | b :: bs, v :: vs => (W.ownsRow base 9 1 v b.2.length (b.2.map str) ∧ (v = .slice none 0 0 ↔ b.2 = []) ∧ (∀ k, v.ownBlock = some k → k < c)) ∧ Done base c W bs vs
  | _, _ => False

/-- The whole slice: its row; the blocks but the last; the last, whose lines lie from block c on. -/
def IsB (T : TypeId) (base : Nat) (W : World) (v : Value) (bs : List Blk) : Prop :=
  (v = .slice none 0 0 ∧ bs = []) ∨
  ∃ (g cap c : Nat) (bs0 : List Blk) (vs0 : List Value) (info : List UInt8) (ls : List (List UInt8)) (lv : Value),
    v = .slice (some ⟨g, 0, none⟩) bs.length cap ∧ bs = bs0 ++ [(info, ls)] ∧ (base ≤ c ∧ c ≤ W.heap.size) ∧ W.ownsRow base T 2 (.slice (some ⟨g, 0, none⟩) bs.length cap) bs.length (flat bs (vs0 ++ [lv])) ∧
    Done base c W bs0 vs0 ∧ W.ownsRow c 9 1 lv ls.length (ls.map str) ∧ (lv = .slice none 0 0 ↔ ls = [])

theorem Done.length {base c : Nat} {W : World} : ∀ {bs : List Blk} {vs : List Value}, Done base c W bs vs → vs.length = bs.length
  | [], [], _ => rfl
  | _ :: _, _ :: _, h => by simp [Done.length h.2]
  | [], _ :: _, h => h.elim
  | _ :: _, [], h => h.elim

theorem flat_append : ∀ {bs : List Blk} {vs : List Value} (bs' : List Blk) (vs' : List Value), vs.length = bs.length → flat (bs ++ bs') (vs ++ vs') = flat bs vs ++ flat bs' vs'
  | [], [], _, _, _ => rfl
  | _ :: bs, _ :: vs, bs', vs', h => by simp [flat, flat_append bs' vs' (by simpa using h)]
  | [], _ :: _, _, _, h => by simp at h
  | _ :: _, [], _, _, h => by simp at h

theorem flat_length : ∀ {bs : List Blk} {vs : List Value}, vs.length = bs.length → (flat bs vs).length = 2 * bs.length
  | [], [], _ => rfl
  | _ :: bs, _ :: vs, h => by
    have := flat_length (bs := bs) (vs := vs) (by simpa using h)
    simp [flat, this]; omega
  | [], _ :: _, h => by simp at h
  | _ :: _, [], h => by simp at h

/-- A row owned from base on owns from whatever lower base on. -/
theorem own_lower {W : World} {base base' : Nat} {e : TypeId} {size n : Nat} {v : Value} {xs : List Value} (h : W.ownsRow base e size v n xs) (hb : base' ≤ base) : W.ownsRow base' e size v n xs := by
  obtain ⟨h1, h2⟩ := h
  refine ⟨h1, ?_⟩
  rcases h2 with h2 | ⟨g, cap, cur, hv, hg, r⟩
  · exact .inl h2
  · exact .inr ⟨g, cap, cur, hv, by omega, r⟩

/-- A row stays through the turn of a block that lies below it, or holds no cells. -/
theorem own_kept {W W' : World} {row : Option Nat} {base : Nat} {e : TypeId} {size n : Nat} {v : Value} {xs : List Value} (h : W.ownsRow base e size v n xs) (hg : W.grownBy W' row)
    (hr : ∀ r, row = some r → r < base ∨ ∃ o : Obj, W.heap[r]? = some o ∧ o.isCells = false) : W'.ownsRow base e size v n xs := by
  refine h.kept hg ?_
  rcases h.2 with ⟨rfl, _⟩ | ⟨g, cap, cur, rfl, hb, hgb, _⟩
  · exact .inl rfl
  · refine .inr fun e' => ?_
    rcases hr g (by simpa [Value.ownBlock] using e'.symm) with h1 | ⟨o, ho, hc⟩
    · omega
    · rw [hgb] at ho; cases ho; cases hc

/-- A row stays through the turn of a row of another element type. -/
theorem own_other {W W' : World} {base base' : Nat} {e e' : TypeId} {size size' n n' : Nat} {v v' : Value} {xs xs' : List Value} (h : W.ownsRow base e size v n xs) (h' : W.ownsRow base' e' size' v' n' xs') (hne : e ≠ e')
    (hg : W.grownBy W' v'.ownBlock) : W'.ownsRow base e size v n xs := by
  refine h.kept hg ?_
  rcases h.2 with ⟨rfl, _⟩ | ⟨g, cap, cur, rfl, hb, hgb, _⟩
  · exact .inl rfl
  · refine .inr fun q => ?_
    rcases h'.2 with ⟨rfl, _⟩ | ⟨g2, cap2, cur2, rfl, hb2, hgb2, _⟩
    · cases q
    · have : g = g2 := by simpa [Value.ownBlock] using q
      subst this
      rw [hgb] at hgb2
      simp at hgb2
      exact hne hgb2.2

theorem Done.mono {base c c' : Nat} {W : World} (hc : c ≤ c') : ∀ {bs : List Blk} {vs : List Value}, Done base c W bs vs → Done base c' W bs vs
  | [], [], _ => trivial
  | _ :: _, _ :: _, h => ⟨⟨h.1.1, h.1.2.1, fun k hk => Nat.lt_of_lt_of_le (h.1.2.2 k hk) hc⟩, Done.mono hc h.2⟩
  | [], _ :: _, h => h.elim
  | _ :: _, [], h => h.elim

theorem Done.map {base c : Nat} {W W' : World} (hk : ∀ v n xs, W.ownsRow base 9 1 v n xs → (∀ k, v.ownBlock = some k → k < c) → W'.ownsRow base 9 1 v n xs) : ∀ {bs : List Blk} {vs : List Value}, Done base c W bs vs → Done base c W' bs vs
  | [], [], _ => trivial
  | _ :: _, _ :: _, h => ⟨⟨hk _ _ _ h.1.1 h.1.2.2, h.1.2.1, h.1.2.2⟩, Done.map hk h.2⟩
  | [], _ :: _, h => h.elim
  | _ :: _, [], h => h.elim

theorem Done.snoc {base c : Nat} {W : World} : ∀ {bs : List Blk} {vs : List Value} {b : Blk} {v : Value}, Done base c W bs vs → W.ownsRow base 9 1 v b.2.length (b.2.map str) → (v = .slice none 0 0 ↔ b.2 = []) → (∀ k, v.ownBlock = some k → k < c) → Done base c W (bs ++ [b]) (vs ++ [v])
  | [], [], _, _, _, h1, h2, h3 => ⟨⟨h1, h2, h3⟩, trivial⟩
  | _ :: _, _ :: _, _, _, h, h1, h2, h3 => ⟨h.1, Done.snoc h.2 h1 h2 h3⟩
  | [], _ :: _, _, _, h, _, _, _ => h.elim
  | _ :: _, [], _, _, h, _, _, _ => h.elim

/-- It stays through the turn of a block that lies below all its rows, or holds no cells. -/
theorem IsB.kept {T : TypeId} {base : Nat} {W W' : World} {v : Value} {bs : List Blk} {row : Option Nat} (h : IsB T base W v bs) (hg : W.grownBy W' row)
    (hr : ∀ r, row = some r → r < base ∨ ∃ o : Obj, W.heap[r]? = some o ∧ o.isCells = false) : IsB T base W' v bs := by
  rcases h with h | ⟨g, cap, c, bs0, vs0, info, ls, lv, hv, hbs, hbc, hrow, hd, hl, hn⟩
  · exact .inl h
  · refine .inr ⟨g, cap, c, bs0, vs0, info, ls, lv, hv, hbs, ⟨hbc.1, Nat.le_trans hbc.2 hg.size⟩, own_kept hrow hg hr, hd.map (fun _ _ _ h _ => own_kept h hg hr), own_kept hl hg (fun r e => ?_), hn⟩
    rcases hr r e with h | h
    · exact .inl (by omega)
    · exact .inr h

/-- What is in it, read cell by cell. -/
theorem IsB.nil_iff {T : TypeId} {base : Nat} {W : World} {v : Value} {bs : List Blk} (h : IsB T base W v bs) : v = .slice none 0 0 ↔ bs = [] := by
  rcases h with ⟨h1, h2⟩ | ⟨g, cap, c, bs0, vs0, info, ls, lv, hv, hbs, _⟩
  · exact ⟨fun _ => h2, fun _ => h1⟩
  · constructor
    · intro e; rw [hv] at e; cases e
    · intro e; rw [hbs] at e; simp at e

theorem IsB.owns {T : TypeId} {base : Nat} {W : World} {v : Value} {bs : List Blk} (h : IsB T base W v bs) : ∃ xs, W.ownsRow base T 2 v bs.length xs := by
  rcases h with ⟨rfl, rfl⟩ | ⟨g, cap, c, bs0, vs0, info, ls, lv, rfl, hbs, hbc, hrow, _⟩
  · exact ⟨[], World.ownsRow_nil _ _ _ _⟩
  · exact ⟨_, hrow⟩

/-- A BLOCK IS OPENED: 'append(blocks, Block{Info: ..})'. -/
theorem IsB.open_row {T : TypeId} {base : Nat} {W : World} {v : Value} {bs : List Blk} (hT : T ≠ 9) (h : IsB T base W v bs) :
    ∃ xs, W.ownsRow base T 2 v bs.length xs ∧ ∀ (tmp : Obj) (w1 : World) (v' : Value) (info : List UInt8), base ≤ W.heap.size →
      w1.ownsRow base T 2 v' (bs.length + 1) (xs ++ [str info, .slice none 0 0]) → (W.alloc tmp).grownBy w1 v.ownBlock → IsB T base w1 v' (bs ++ [(info, [])]) := by
  rcases h with ⟨rfl, rfl⟩ | ⟨g, cap, c, bs0, vs0, info0, ls, lv, rfl, hbs, hbc, hrow, hd, hl, hn⟩
  · refine ⟨[], World.ownsRow_nil _ _ _ _, fun tmp w1 v' info hb hown hgrow => ?_⟩
    obtain ⟨g', cap', rfl⟩ := ownsRow_succ hown
    have hs := hgrow.size
    refine .inr ⟨g', cap', base, [], [], info, [], .slice none 0 0, rfl, rfl, ⟨Nat.le_refl _, by simp at hs; omega⟩, hown, trivial, World.ownsRow_nil _ _ _ _, by simp⟩
  · refine ⟨_, hrow, fun tmp w1 v' info hb hown hgrow => ?_⟩
    obtain ⟨g', cap', rfl⟩ := ownsRow_succ hown
    have hlen := hd.length
    have hkeep : ∀ b v n xs, W.ownsRow b 9 1 v n xs → w1.ownsRow b 9 1 v n xs := fun b v n xs h => own_other (h.alloc tmp) (hrow.alloc tmp) (fun e => hT e.symm) hgrow
    have hl1 : w1.ownsRow base 9 1 lv ls.length (ls.map str) := own_lower (hkeep _ _ _ _ hl) hbc.1
    have hd1 : Done base w1.heap.size w1 (bs0 ++ [(info0, ls)]) (vs0 ++ [lv]) := by
      refine Done.snoc (Done.mono (Nat.le_trans hbc.2 (by have := hgrow.size; simp at this; omega)) (hd.map (fun _ _ _ h _ => hkeep _ _ _ _ h))) hl1 hn (fun k hk => (hl1.lt k hk).2)
    refine .inr ⟨g', cap', w1.heap.size, bs, vs0 ++ [lv], info, [], .slice none 0 0, by simp, rfl, ⟨by have := hgrow.size; simp at this; omega, Nat.le_refl _⟩, ?_, by rw [hbs]; exact hd1, World.ownsRow_nil _ _ _ _, by simp⟩
    have hf : flat (bs ++ [(info, [])]) (vs0 ++ [lv] ++ [Value.slice none 0 0]) = flat bs (vs0 ++ [lv]) ++ [str info, .slice none 0 0] := by
      rw [flat_append _ _ (by rw [hbs]; simp [hlen])]; rfl
    rw [hf]
    simpa using hown

theorem flat_set (bs : List Blk) (vs : List Value) (info : List UInt8) (ls ls' : List (List UInt8)) (lv lv' : Value) (h : vs.length = bs.length) :
    (flat (bs ++ [(info, ls)]) (vs ++ [lv])).set (2 * bs.length + 1) lv' = flat (bs ++ [(info, ls')]) (vs ++ [lv']) := by
  rw [flat_append _ _ h, flat_append _ _ h]
  have e : 2 * bs.length + 1 = (flat bs vs).length + 1 := by rw [flat_length h]
  rw [e, List.set_append_right _ _ (by omega)]
  simp [flat]

theorem flat_last (bs : List Blk) (vs : List Value) (info : List UInt8) (ls : List (List UInt8)) (lv : Value) (h : vs.length = bs.length) :
    (flat (bs ++ [(info, ls)]) (vs ++ [lv]))[2 * bs.length + 1]? = some lv := by
  rw [flat_append _ _ h, List.getElem?_append_right (by rw [flat_length h]; omega), flat_length h]
  have : 2 * bs.length + 1 - 2 * bs.length = 1 := by omega
  rw [this]; rfl

/-- A LINE IS LAID BEHIND THE LAST BLOCK's: 'last.Lines = append(last.Lines, line)'. -/
theorem IsB.line_row {T : TypeId} {base : Nat} {W : World} {v : Value} {bs0 : List Blk} {info : List UInt8} {ls : List (List UInt8)} (hT : T ≠ 9) (h : IsB T base W v (bs0 ++ [(info, ls)])) :
    ∃ (g cap c : Nat) (lv : Value), v = .slice (some ⟨g, 0, none⟩) (bs0.length + 1) cap ∧ base ≤ g ∧ g < W.heap.size ∧ (base ≤ c ∧ c ≤ W.heap.size) ∧ W.cell? ⟨g, 2 * bs0.length + 1, none⟩ = some lv ∧ W.ownsRow c 9 1 lv ls.length (ls.map str) ∧
      ∀ (tmp : Obj) (w1 : World) (lv' : Value) (x : List UInt8), w1.ownsRow c 9 1 lv' (ls.length + 1) (ls.map str ++ [str x]) → (W.alloc tmp).grownBy w1 lv.ownBlock →
        w1.cell? ⟨g, 2 * bs0.length + 1, none⟩ = some lv ∧ w1.frozen? ⟨g, 2 * bs0.length + 1, none⟩ = false ∧
        IsB T base (w1.setCell ⟨g, 2 * bs0.length + 1, none⟩ lv') v (bs0 ++ [(info, ls ++ [x])]) := by
  rcases h with ⟨_, h⟩ | ⟨g, cap, c, bs0', vs0, info', ls', lv, rfl, hbs, hbc, hrow, hd, hl, hn⟩
  · simp at h
  · obtain ⟨rfl, e2⟩ := List.append_inj' hbs rfl
    simp only [List.cons.injEq, Prod.mk.injEq, and_true] at e2
    obtain ⟨rfl, rfl⟩ := e2
    have hlen := hd.length
    have hg := hrow.lt g rfl
    have hln : (bs0 ++ [(info, ls)]).length = bs0.length + 1 := by simp
    rw [hln] at hrow ⊢
    have hcell : W.cell? ⟨g, 2 * bs0.length + 1, none⟩ = some lv := by
      rw [hrow.cellAt _ (by omega)]; exact flat_last bs0 vs0 info ls lv hlen
    refine ⟨g, cap, c, lv, rfl, hg.1, hg.2, hbc, hcell, hl, fun tmp w1 lv' x hown hgrow => ?_⟩
    have hrow1 : w1.ownsRow base T 2 (.slice (some ⟨g, 0, none⟩) (bs0.length + 1) cap) (bs0.length + 1) (flat (bs0 ++ [(info, ls)]) (vs0 ++ [lv])) := own_other (hrow.alloc tmp) (hl.alloc tmp) hT hgrow
    have hd1 : Done base c w1 bs0 vs0 := hd.map fun v n xs h hk => by
      refine (h.alloc tmp).kept hgrow ?_
      rcases hvb : v.ownBlock with _ | k
      · exact .inl rfl
      · refine .inr fun e => ?_
        have h1 := hk k hvb
        have h2 := (hl.lt k e.symm).1
        omega
    have hst := hrow1.stored (2 * bs0.length + 1) lv'
    have hkeep : ∀ b v n xs, w1.ownsRow b 9 1 v n xs → (w1.setCell ⟨g, 2 * bs0.length + 1, none⟩ lv').ownsRow b 9 1 v n xs := fun b v n xs h => own_other h hrow1 (fun e => hT e.symm) hst.2
    obtain ⟨g2, cap2, rfl⟩ := ownsRow_succ hown
    refine ⟨by rw [hrow1.cellAt _ (by omega)]; exact flat_last bs0 vs0 info ls lv hlen, hrow1.frozenAt _, .inr ⟨g, cap, c, bs0, vs0, info, ls ++ [x], .slice (some ⟨g2, 0, none⟩) (ls.length + 1) cap2, by simp, rfl, ⟨hbc.1, ?_⟩, ?_, hd1.map (fun _ _ _ h _ => hkeep _ _ _ _ h), ?_, by simp⟩⟩
    · have := hgrow.size; have := hst.2.size; simp at *; omega
    · have := hst.1
      rw [flat_set bs0 vs0 info ls (ls ++ [x]) lv _ hlen] at this
      simpa using this
    · have := hkeep _ _ _ _ hown
      simpa using this

theorem Done.at {base c : Nat} {W : World} : ∀ {bs : List Blk} {vs : List Value} (_ : Done base c W bs vs) (i : Nat) (hi : i < bs.length),
    ∃ lv, (flat bs vs)[2 * i]? = some (str bs[i].1) ∧ (flat bs vs)[2 * i + 1]? = some lv ∧ W.ownsRow base 9 1 lv bs[i].2.length (bs[i].2.map str) ∧ (lv = .slice none 0 0 ↔ bs[i].2 = [])
  | b :: bs, v :: vs, h, 0, _ => ⟨v, rfl, rfl, h.1.1, h.1.2.1⟩
  | b :: bs, v :: vs, h, i + 1, hi => by
    obtain ⟨lv, h1, h2, h3, h4⟩ := Done.at h.2 i (by simpa using hi)
    refine ⟨lv, ?_, ?_, by simpa using h3, by simpa using h4⟩
    · rw [show 2 * (i + 1) = 2 * i + 1 + 1 by omega]; simpa [flat] using h1
    · rw [show 2 * (i + 1) + 1 = 2 * i + 1 + 1 + 1 by omega]; simpa [flat] using h2
  | [], _, _, i, hi => by simp at hi
  | _ :: _, [], h, _, _ => h.elim

/-- WHAT IS IN IT, BLOCK BY BLOCK. -/
theorem IsB.at {T : TypeId} {base : Nat} {W : World} {v : Value} {bs : List Blk} (h : IsB T base W v bs) (hne : bs ≠ []) :
    ∃ g cap, v = .slice (some ⟨g, 0, none⟩) bs.length cap ∧ ∀ i (hi : i < bs.length), ∃ lv, W.cell? ⟨g, 2 * i, none⟩ = some (str bs[i].1) ∧ W.cell? ⟨g, 2 * i + 1, none⟩ = some lv ∧
      W.ownsRow base 9 1 lv bs[i].2.length (bs[i].2.map str) ∧ (lv = .slice none 0 0 ↔ bs[i].2 = []) := by
  rcases h with ⟨_, h⟩ | ⟨g, cap, c, bs0, vs0, info, ls, lv, rfl, hbs, hbc, hrow, hd, hl, hn⟩
  · exact absurd h hne
  · refine ⟨g, cap, rfl, fun i hi => ?_⟩
    have hd2 : Done base W.heap.size W bs (vs0 ++ [lv]) := by
      have hl' := own_lower hl hbc.1
      rw [hbs]
      exact Done.snoc (hd.mono hbc.2) hl' hn (fun k hk => (hl'.lt k hk).2)
    obtain ⟨lv', h1, h2, h3, h4⟩ := hd2.at i hi
    exact ⟨lv', by rw [hrow.cellAt _ (by omega)]; exact h1, by rw [hrow.cellAt _ (by omega)]; exact h2, h3, h4⟩
end Go.Proofs.Qxb6601375a
