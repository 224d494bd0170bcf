/-
  A LAW OF THIS SEAT'S OWN: a range over an iterator that keeps its state in one cell (a captured variable's box, block Bs), a body that never leaves early.
  What the two promise each other: the iterator writes its box alone and draws; the body leaves that box as it was.
-/
import Derived.RangeFuncBox
import Derived.RangeFuncLeaves
import Derived.RangeFuncBound
namespace Go.Proofs.Qxb6601375a
open Go Go.RowKit

variable {F : Fence} {n : Nat} {P : Program}

/-- How a round's body is left: off its end alone; blocks that are no cells, from B on, as they were; the iterator's box as it was. -/
def roundEnds (B Bs : Nat) (I : World → Prop) (W : World) : Exit → Act → World → Prop
  | .normal, _, W' => KeepsFrom B W W' ∧ W'.heap[Bs]? = W.heap[Bs]? ∧ I W'
  | _, _, _ => False

theorem range_cell {α : Type} {g : Operand} {ps : Array Tmp} {assign body : Code} {Q : Exit → Act → World → Prop} {a : Act} {w : World}
    (hro : F.round = none) (h1 : 1 ≤ n) {gf : Nat} {lb : Array Value} (hg : a.eval g = .func (.func gf) #[] lb) (hFg : F.fn gf) (eg : ∀ args w, (callFunc gf args).run P w = .ok (.enter gf args) w)
    {encs : α → Array Value} (hps : ∀ x, (encs x).size = ps.size) (Bs N : Nat) (hBs : Bs < w.heap.size) (S : List α → Prop)
    (hseq : ∀ (l : Nat) (J : List α → World → Prop) (W : World), (∀ pre W v, J pre W → J pre (W.setCell ⟨Bs, 0, none⟩ v)) → (∀ pre W, J pre W → J pre W.drew) →
      (∀ pre x W1, J pre W1 → pre.length < N → YieldAt F (n - 1 - 1) P l (encs x) W1 fun e W' => e = .returned (.bool true) ∧ J (pre ++ [x]) W' ∧ W'.heap[Bs]? = W1.heap[Bs]?) →
      J [] W → W.heap[Bs]? = w.heap[Bs]? →
      CallsIn F (n - 1) P gf (#[.func (.yield l) #[] #[]] ++ lb) W fun e W' => (∃ v, e = .returned v) ∧ ∃ xs, S xs ∧ J xs W')
    (I : List α → World → Prop) (hIo : OwnFrom w.heap.size I) (hIs : ∀ pre W v, I pre W → I pre (W.setCell ⟨Bs, 0, none⟩ v)) (hId : ∀ pre W, I pre W → I pre W.drew) (h0 : I [] w) (a₁ : α → Act)
    (hassign : ∀ (l : Nat) (x : α) (W : World) (K : Act → World → Prop), K (a₁ x) W →
      assign.wpIn (F.inRound l) (n - 1 - 1) P (Exit.then K (fun _ _ _ => False)) { tmps := (ps.zip (encs x)).foldl (fun t (p, v) => t.setIfInBounds p v) a.tmps, defers := [] } W)
    (hbody : ∀ (l : Nat) (pre : List α) (x : α) (W : World), I pre W → pre.length < N → body.wpIn (F.inRound l) (n - 1 - 1) P (roundEnds w.heap.size Bs (I (pre ++ [x])) W) (a₁ x) W)
    (hdone : ∀ (D : Nat) (xs : List α) (W : World), w.heap.size ≤ D → S xs → I xs W → W.heap[D]? = some (.deferred (some [])) → Q .normal { a with defers := { target := .collected D, args := #[] } :: a.defers } W) :
    (Code.rangeFunc g ps assign body).wpIn F n P Q a w := by
  refine wpIn_rangeFunc ?_
  intro fn hfn
  rw [hro]
  obtain ⟨rc, hrc⟩ : ∃ rc : LoopState → Loop, rc = fun st => { state := st, pending := none, fn, tmps := a.tmps, params := ps, assign, body, defers := w.heap.size } := ⟨_, rfl⟩
  obtain ⟨W1, hW1⟩ : ∃ W1, (w.alloc (.deferred (some []))).alloc (.loop (rc .ready)) = W1 := ⟨_, rfl⟩
  have hL1 : W1.heap[w.heap.size + 1]? = some (.loop (rc .ready)) := by
    rw [← hW1]; have := World.alloc_heap_new (w.alloc (.deferred (some []))) (.loop (rc .ready)); rwa [World.size_alloc] at this
  have hK1 : W1.heap[w.heap.size]? = some (.deferred (some [])) := by
    rw [← hW1]; exact (Below.heap_alloc _ _ _ (by simp)).trans (World.alloc_heap_new w _)
  have hS1 : W1.heap[Bs]? = w.heap[Bs]? := by
    rw [← hW1]; exact (Below.heap_alloc _ _ _ (by simp; omega)).trans (Below.heap_alloc _ _ _ hBs)
  have hI1 : I [] W1 := by rw [← hW1]; exact hIo.alloc _ (hIo.alloc _ h0)
  refine ⟨w.heap.size + 1, [{ target := .collected w.heap.size, args := #[] }], W1, { target := .fn (.func gf) lb, args := #[.func (.yield (w.heap.size + 1)) #[] #[]] }, W1, gf,
    #[.func (.yield (w.heap.size + 1)) #[] #[]] ++ lb, W1, ?_, ?_, ?_, ?_, fun _ => h1, ?_⟩
  · rw [← hW1, hrc]; exact run_enterLoop_outer _ _ _ _ _
  · simp only [resolve, hg]
    simp [go_sem]
  · intro f' hf'; simp [Target.leads] at hf'; subst hf'; exact hFg
  · simp [invoke, go_sem, eg]
  · refine (hseq (w.heap.size + 1)
      (fun pre W => I pre W ∧ W.heap[w.heap.size + 1]? = some (.loop (rc .ready)) ∧ W.heap[w.heap.size]? = some (.deferred (some [])))
      W1 ?_ ?_ ?_ ⟨hI1, hL1, hK1⟩ hS1).mono ?_
    · -- a store into the box
      rintro pre W v ⟨hi, hl, hk⟩
      exact ⟨hIs _ _ _ hi, (Below.heap_setCell W ⟨Bs, 0, none⟩ v _ (show _ ≠ Bs by omega)).trans hl, (Below.heap_setCell W ⟨Bs, 0, none⟩ v _ (show _ ≠ Bs by omega)).trans hk⟩
    · rintro pre W ⟨hi, hl, hk⟩
      exact ⟨hId _ _ hi, hl, hk⟩
    · -- a round
      rintro pre x W ⟨hi, hl, hk⟩ hlen
      have hlt : w.heap.size + 1 < W.heap.size := (Array.getElem?_eq_some_iff.1 hl).1
      have hy := run_yield (P := P) (args := encs x) hl (by rw [hrc]; exact hps x)
      rw [hrc] at hy
      refine ⟨fn, _, assign, body, hy, roundIn_of_wpIn hfn (hassign _ x W _ ⟨_, run_beginRound hl (by rw [hrc]), ?_⟩)⟩
      have hl2 : (W.putObj (w.heap.size + 1) (.loop { rc .ready with state := .busy })).heap[w.heap.size + 1]? = some (.loop { rc .ready with state := .busy }) := World.putObj_heap_same hlt
      have hk2 : (W.putObj (w.heap.size + 1) (.loop { rc .ready with state := .busy })).heap[w.heap.size]? = some (.deferred (some [])) := (World.putObj_heap_other (by omega)).trans hk
      refine wpIn_mono (hbody (w.heap.size + 1) pre x _ (hIo.putObj _ hi (by omega) hl rfl) hlen) ?_
      rintro e a3 W3 hp
      cases e with
      | normal =>
        obtain ⟨hk3, hs3, hi3⟩ := hp
        have hl3 := hk3.same _ _ (by omega) hl2 rfl
        have hd3 := hk3.same _ _ (Nat.le_refl _) hk2 rfl
        refine ⟨_, _, run_endRound (P := P) none hl3, rfl, ⟨hIo.putObj _ hi3 (by omega) hl3 rfl, ?_, (World.putObj_heap_other (by omega)).trans hd3⟩, ?_⟩
        · rw [World.putObj_heap_same (Array.getElem?_eq_some_iff.1 hl3).1, hrc]; rfl
        · rw [World.putObj_heap_other (by omega), hs3, World.putObj_heap_other (by omega)]
      | ret => exact hp.elim
      | exit id => exact hp.elim
      | goto t => exact hp.elim
      | panic ch => exact hp.elim
      | outgrown => exact hp.elim
    · -- behind the iterator
      rintro e W2 ⟨⟨v, rfl⟩, xs, hS, hi, hl, hk⟩
      have hend : (Instr.endLoop (w.heap.size + 1)).run P W2 = .ok none (W2.putObj (w.heap.size + 1) (.loop { rc .ready with state := .exhausted })) := by
        have := run_endLoop (P := P) hl (by rw [hrc]; simp)
        rw [hrc] at this ⊢
        exact this
      exact ⟨none, _, hend, hdone _ xs _ (Nat.le_refl _) hS (hIo.putObj _ hi (by omega) hl rfl) ((World.putObj_heap_other (by omega)).trans hk)⟩
end Go.Proofs.Qxb6601375a
