/-
  WHAT A ROUND OF Blocks DOES TO THE MEMORY: the flag is stored; a block is opened; a line is laid behind the last block's.
-/
import Derived.Test.Qxb6601375aBlk
import Derived.OwnWalkIn
namespace Go.Proofs.Qxb6601375a
open Go Go.RowKit
open Pl

/-- The two variables' boxes, the blocks, what lay ahead of the call. -/
structure Held (B : Nat) (w W : World) (v : Value) (i : Bool) (bs : List Blk) : Prop where
  b3 : Boxed W B 23 v
  b4 : Boxed W (B + 1) 4 (.bool i)
  isB : IsB 29 (B + 3) W v bs
  size : B + 3 ≤ W.heap.size
  below : Below B w W

/-- A step of the round: what it keeps for the iterator and for the loop. -/
structure Kept (B : Nat) (W W' : World) : Prop where
  others : KeepsOthers W W'
  box : W'.heap[B + 1 + 1]? = W.heap[B + 1 + 1]?

theorem Kept.refl (B : Nat) (W : World) : Kept B W W := ⟨KeepsOthers.refl W, rfl⟩
theorem Kept.trans {B : Nat} {X Y Z : World} (h : Kept B X Y) (k : Kept B Y Z) : Kept B X Z := ⟨h.others.trans k.others, k.box.trans h.box⟩
theorem Kept.drew (B : Nat) (W : World) : Kept B W W.drew := ⟨⟨Nat.le_refl _, fun _ _ h _ => h⟩, rfl⟩

theorem Held.drew {B : Nat} {w W : World} {v : Value} {i : Bool} {bs : List Blk} (h : Held B w W v i bs) : Held B w W.drew v i bs :=
  ⟨h.b3, h.b4, h.isB.kept (row := none) ⟨rfl, rfl, rfl, Nat.le_refl _, fun _ _ _ => rfl⟩ (fun r e => by cases e), h.size, h.below.drew⟩

/-- The flag is stored. -/
theorem Held.flag {B : Nat} {w W : World} {v : Value} {i : Bool} {bs : List Blk} (h : Held B w W v i bs) (b : Bool) :
    Held B w (W.setCell ⟨B + 1, 0, none⟩ (.bool b)) v b bs ∧ Kept B W (W.setCell ⟨B + 1, 0, none⟩ (.bool b)) := by
  have hg := grownBy_setCell' W (B + 1) (.bool b)
  refine ⟨⟨h.b3.kept hg (by simp), h.b4.set _, h.isB.kept hg (fun r e => by cases e; exact .inl (by omega)), Nat.le_trans h.size hg.size, h.below.grown hg (by have := h.size; omega) (fun k e => by cases e; omega)⟩, ⟨KeepsOthers.setCell _ _ _, ?_⟩⟩
  exact Below.heap_setCell W ⟨B + 1, 0, none⟩ _ _ (by show B + 1 + 1 ≠ B + 1; omega)

/-- A block is opened. -/
theorem Held.opened {B : Nat} {w W : World} {v : Value} {i : Bool} {bs : List Blk} (h : Held B w W v i bs) :
    ∃ xs, W.ownsRow (B + 3) 29 2 v bs.length xs ∧ ∀ (tmp : Obj) (w1 : World) (v' : Value) (info : List UInt8), w1.ownsRow (B + 3) 29 2 v' (bs.length + 1) (xs ++ [str info, .slice none 0 0]) → (W.alloc tmp).grownBy w1 v.ownBlock →
      Boxed w1 B 23 v ∧ Held B w (w1.setCell ⟨B, 0, none⟩ v') v' i (bs ++ [(info, [])]) ∧ Kept B W (w1.setCell ⟨B, 0, none⟩ v') := by
  obtain ⟨xs, hrow, hopen⟩ := h.isB.open_row (by decide)
  refine ⟨xs, hrow, fun tmp w1 v' info hown hgrow => ?_⟩
  have hsz := h.size
  obtain ⟨k1, k2, k3, k4, k5⟩ := Boxed.appended (n₀ := B) h.b3 (by decide) (own_lower hrow (by omega)) (by omega) (Nat.le_refl _) (own_lower hown (by omega)) hgrow
  have hg2 := grownBy_setCell' w1 B v'
  have hout : ∀ k, k < B + 3 → some k ≠ v.ownBlock := fun k hk e => by have := (hrow.lt k e.symm).1; omega
  have hI := (hopen tmp w1 v' info h.size hown hgrow).kept hg2 (fun r e => by cases e; exact .inl (by omega))
  refine ⟨k1, ⟨k2, ((h.b4.alloc tmp).kept hgrow (hout _ (by omega))).kept hg2 (by simp), hI, by have := hgrow.size; have := hg2.size; simp at *; omega, h.below.trans k5⟩, ⟨k4, ?_⟩⟩
  rw [Below.heap_setCell w1 ⟨B, 0, none⟩ v' _ (by show B + 1 + 1 ≠ B; omega), hgrow.block _ (by simp; omega) (hout _ (by omega))]
  exact Below.heap_alloc _ _ _ (by omega)

/-- A line is laid behind the last block's. -/
theorem Held.lined {B : Nat} {w W : World} {v : Value} {i : Bool} {bs0 : List Blk} {info : List UInt8} {ls : List (List UInt8)} (h : Held B w W v i (bs0 ++ [(info, ls)])) :
    ∃ (g cap c : Nat) (lv : Value), v = .slice (some ⟨g, 0, none⟩) (bs0.length + 1) cap ∧ B + 3 ≤ g ∧ c ≤ W.heap.size ∧ W.cell? ⟨g, 2 * bs0.length + 1, none⟩ = some lv ∧ W.ownsRow c 9 1 lv ls.length (ls.map str) ∧
      ∀ (tmp : Obj) (w1 : World) (lv' : Value) (x : List UInt8), w1.ownsRow c 9 1 lv' (ls.length + 1) (ls.map str ++ [str x]) → (W.alloc tmp).grownBy w1 lv.ownBlock →
        w1.cell? ⟨g, 2 * bs0.length + 1, none⟩ = some lv ∧ w1.frozen? ⟨g, 2 * bs0.length + 1, none⟩ = false ∧
        Held B w (w1.setCell ⟨g, 2 * bs0.length + 1, none⟩ lv') v i (bs0 ++ [(info, ls ++ [x])]) ∧ Kept B W (w1.setCell ⟨g, 2 * bs0.length + 1, none⟩ lv') := by
  obtain ⟨g, cap, c, lv, hv, hbg, hgs, hbc, hcell, hl, hline⟩ := h.isB.line_row (by decide)
  refine ⟨g, cap, c, lv, hv, hbg, hbc.2, hcell, hl, fun tmp w1 lv' x hown hgrow => ?_⟩
  obtain ⟨q1, q2, q3⟩ := hline tmp w1 lv' x hown hgrow
  have hsz := h.size
  have hout : ∀ k, k < B + 3 → some k ≠ lv.ownBlock := fun k hk e => by have := (hl.lt k e.symm).1; omega
  have hset : ∀ k, k < B + 3 → (w1.setCell ⟨g, 2 * bs0.length + 1, none⟩ lv').heap[k]? = w1.heap[k]? := fun k hk => Below.heap_setCell w1 ⟨g, 2 * bs0.length + 1, none⟩ lv' k (by show k ≠ g; omega)
  have hw1 : ∀ k, k < B + 3 → w1.heap[k]? = W.heap[k]? := fun k hk => by
    rw [hgrow.block _ (by simp; omega) (hout _ hk)]; exact Below.heap_alloc _ _ _ (by omega)
  have hall : ∀ k, k < B + 3 → (w1.setCell ⟨g, 2 * bs0.length + 1, none⟩ lv').heap[k]? = W.heap[k]? := fun k hk => (hset k hk).trans (hw1 k hk)
  have hs1 := hgrow.size
  simp at hs1
  have hB2 : Below B W (w1.setCell ⟨g, 2 * bs0.length + 1, none⟩ lv') :=
    (((Below.refl B W).alloc (by omega) tmp).grown hgrow (by simp; omega) (fun k e => by have := (hl.lt k e).1; omega)).setCell (p := ⟨g, 2 * bs0.length + 1, none⟩) (by show B ≤ g; omega) lv'
  refine ⟨q1, q2, ⟨(hall B (by omega)).trans h.b3, (hall (B + 1) (by omega)).trans h.b4, q3, ?_, h.below.trans hB2⟩, ⟨?_, hall (B + 1 + 1) (by omega)⟩⟩
  · have := hB2.size; omega
  · refine ((KeepsOthers.alloc W tmp).trans (KeepsOthers.of_grownBy hgrow fun j o ej hj => ?_)).trans (KeepsOthers.setCell _ _ _)
    rcases (hl.alloc tmp).2 with ⟨rfl, _⟩ | ⟨g2, cap2, cur, rfl, _, hgb, _⟩
    · simp [Value.ownBlock] at ej
    · obtain rfl : g2 = j := by simpa [Value.ownBlock] using ej
      rw [hgb] at hj; cases hj; rfl

/-- 'append' to a row of the call's own, as one step of a region that draws its order, inside a fence. -/
theorem stepIn_append_own {F : Fence} {n : Nat} {P : Program} {w : World} {ops : Array Oper} {o : Oper} {a : Act} {K : Act → World → Prop} {Q : Exit → Act → World → Prop} {E : Prop}
    (hg : o.guard = none) (s x : Operand) (t : TypeId) (hop : o.op = Op.call { callee := Callee.builtin Builtin.append, args := #[s, x], argTypes := #[t, t] })
    (base : Nat) (e : TypeId) (i : TypeInfo) (z : Value) (size bytes : Nat) (h1 : P.underlying t = some (.slice e)) (h2 : P.info? e = some i) (h3 : i.zero = some z) (h4 : i.size = size) (h5 : i.bytes = bytes) (h6 : z.cells.size = size) (h7 : 0 < size)
    (v : Value) (k : Nat) (xs : List Value) (hown : w.ownsRow base e size v k xs) (hs : a.eval s = v) (ad : Addr) (m c : Nat) (news : List Value) (hx : a.eval x = .slice (some ad) m c) (hn : news.length = m * size)
    (hc : ∀ j u, news[j]? = some u → w.cell? (ad.add j) = some u) (h1c : ∀ u ∈ news, u.oneCell' = true) (b1 : k + m ≤ maxLen) (b2 : (k + m) * bytes ≤ 140737488355328) (b3 : base ≤ w.heap.size)
    (hK : ∀ v' w', w'.ownsRow base e size v' (k + m) (xs ++ news) → w.grownBy w' v.ownBlock → K (a.put o.dst v') w') :
    if Region.wanted o (yielded ops a.tmps) = true then Oper.wpIn F n P o a w K Q else E := by
  have hw : Region.wanted o (yielded ops a.tmps) = true := by simp [Region.wanted, hg]
  rw [if_pos hw]
  obtain ⟨v', w', hrun, r1, r2, _⟩ := run_append_own (P := P) w base t o.type e i z size bytes h1 h2 h3 h4 h5 h6 h7 v k xs hown ad m c news hn hc h1c b1 b2 b3
  unfold Oper.wpIn
  refine ⟨?_, ?_⟩
  · simp [Oper.about, hop, resolve, Target.leads, Sem.run_pure]
  · rw [Oper.semAt_plain F _ _ (by rw [hop]; intro c hc'; cases hc')]
    simp [execOp, hop, resolve, invoke, builtin, hs, hx, hrun, Result.andThen]
    exact hK v' w' r1 r2
end Go.Proofs.Qxb6601375a
