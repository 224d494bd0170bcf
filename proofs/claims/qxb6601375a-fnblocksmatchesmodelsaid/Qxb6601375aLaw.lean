/-
  THE WALK OF FnBlocksMatchesModel.
-/
import Derived.Test.Qxb6601375aBlocks
import Derived.Test.Qxb6601375aSame
import Derived.Lib.SliceRun
namespace Go.Proofs.Qxb6601375a
open Go Go.RowKit
open Pl

theorem IsB.below {T : TypeId} {base : Nat} {W W' : World} {v : Value} {bs : List Blk} (h : IsB T base W v bs) (hb : Below W.heap.size W W') : IsB T base W' v bs :=
  h.kept (row := none) ⟨hb.os, hb.tape, hb.output, hb.size, fun k hk _ => hb.block k hk⟩ (fun r e => by cases e)

theorem quiet_from {f : FuncId} {args : Array Value} {w : World} {v : Value} (p m : Nat) (h : Calls Try.prog f args (w.drewN (p + m)) fun e w' => e = .returned v ∧ ∃ n, w' = (w.drewN (p + m)).drewN n) :
    Calls Try.prog f args (w.drewN (p + m)) fun e w' => e = .returned v ∧ ∃ n, w' = w.drewN (p + n) :=
  h.mono fun _ _ ⟨he, q, hq⟩ => ⟨he, m + q, by rw [hq, World.drewN_drewN, Nat.add_assoc]⟩
theorem own_none {W : World} {base n c : Nat} {ls : List (List UInt8)} (h : W.ownsRow base 9 1 (.slice none n c) n (ls.map str)) : ls = [] := by
  rcases h.2 with ⟨_, h0⟩ | ⟨g, cap, cur, hv, _⟩
  · have := h.1
    rw [h0] at this
    simpa using this
  · cases hv
theorem lines_len (l : List UInt8) : (linesL l).length ≤ l.length := by
  induction l with
  | nil => exact Nat.le_refl _
  | cons c l ih =>
    by_cases hc : c = 10
    · subst hc; rw [linesL_nl]; simp; omega
    · rw [linesL_other c l hc]
      cases h : linesL l with
      | nil => simp [consP]
      | cons a t => rw [h] at ih; simp [consP] at ih ⊢; omega

theorem eql_nil (t e : TypeId) (h : Try.prog.underlying t = some (.slice e)) : ∀ (w : World) (a : Option Addr) (n c : Nat), (binOp .eql t (.slice a n c) (.slice none 0 0)).run Try.prog w = .ok (.bool a.isNone) w :=
  fun w a n c => Lib.run_eql_slice_nil w t e a n c 0 0 h

set_option maxHeartbeats 3200000 in
theorem law_walk (s : ByteArray) (w : World) (w0 : s.size ≤ maxLen) (hb : s.size ≤ 1048576) :
    Calls Try.prog 3 #[.string s] w fun e w' => e = .returned (.bool true) ∧ Below w.heap.size w w' := by
  have hbt : b1 s = true := (b1_true hb).symm
  have e23 := eql_nil 23 29 Try.underlying23
  have e25 := eql_nil 25 31 Try.underlying25
  have e27 := eql_nil 27 9 Try.underlying27
  have hln := lines_len s.data.toList
  have hsl : s.data.toList.length = s.size := by simp
  have hbl : (run (linesL s.data.toList)).2.length ≤ 1048576 := by have := run_len (linesL s.data.toList); omega
  have hll : ∀ b ∈ (run (linesL s.data.toList)).2, b.2.length ≤ 1048576 := fun b hb => by have := run_lines (linesL s.data.toList) b hb; omega
  clear hln hsl
  go_enter Try.func3, Try.ntmps3
  go_wp2_with (go_at_call 7; refine (bytes7 _ _ w0).mono ?_; rintro e w' ⟨rfl, rfl⟩)
  refine (blocks_any s hb _).mono ?_
  rintro e w1 ⟨v, rfl, hB1, hb1⟩
  go_wp2_with fail
  refine (model_any s _ hb).mono ?_
  rintro e w2 ⟨v', rfl, hB2, hb2⟩
  have hB1' := hB1.below hb2
  clear hB1
  have hbel : Below w'.heap.size w' w2 := hb1.trans (hb2.mono hb1.size)
  clear hb1 hb2
  generalize (run (linesL s.data.toList)).2 = bs at hB1' hB2 hbl hll
  by_cases hne : bs = []
  · obtain rfl : v = .slice none 0 0 := hB1'.nil_iff.2 hne
    obtain rfl : v' = .slice none 0 0 := hB2.nil_iff.2 hne
    go_wp2
    refine wp_loop_rounds 1 ?_
    rw [rounds_succ]
    go_wp2
    go_ret
    exact ⟨rfl, hbel⟩
  · obtain ⟨g1, cap1, rfl, hat1⟩ := hB1'.at hne
    obtain ⟨g2, cap2, rfl, hat2⟩ := hB2.at hne
    go_wp2
    go_loopw [5] (fun i wr => ∃ k n : Nat, k ≤ bs.length ∧ i = .int .i64 k ∧ wr = w2.drewN n) (fun i _ => bs.length - (intOf i).toNat)
    case atStart => exact ⟨0, 0, Nat.zero_le _, rfl, rfl⟩
    case round =>
      obtain ⟨k, n, hk, rfl, rfl⟩ := hrel
      by_cases hlt : k < bs.length
      · obtain ⟨lv1, p1, p2, p3, p4⟩ := hat1 k hlt
        obtain ⟨lv2, q1, q2, q3, q4⟩ := hat2 k hlt
        have hls := hll bs[k] (List.getElem_mem hlt)
        generalize bs[k] = bk at p1 p2 p3 p4 q1 q2 q3 q4 hls
        obtain ⟨info, ls⟩ := bk
        simp only [Nat.mul_comm 2, str] at p1 p2 q1 q2
        clear hat1 hat2
        have i0 : (k : Int) < (bs.length : Int) := by omega
        generalize mk info = X at p1 q1
        dsimp only at p3 p4 q3 q4 hls
        by_cases hl0 : ls = []
        · obtain rfl : lv1 = .slice none 0 0 := p4.2 hl0
          obtain rfl : lv2 = .slice none 0 0 := q4.2 hl0
          subst hl0
          have csame := fun p m => quiet_from p m (same_any _ _ 0 0 none none [] (w2.drewN (p + m)) (Nat.zero_le _) (own_drewN p3 _) (own_drewN q3 _))
          simp only [List.length_nil] at csame
          clear p3 p4 q3 q4
          go_wp2
          go_quiet (fail)
          go_wp2
          go_quiet ((go_at_call 10; exact csame _ _))
          go_wp2
          go_roundw
          case rel => exact ⟨k + 1, _, by omega, by go_num, rfl⟩
          case measure => simp [intOf]; omega
        · obtain ⟨a1, c1, rfl⟩ := slice_form p3
          obtain ⟨a2, c2, rfl⟩ := slice_form q3
          obtain ⟨x1, rfl⟩ : ∃ x1, a1 = some x1 := by
            cases a1 with
            | none => exact absurd (own_none p3) hl0
            | some x1 => exact ⟨x1, rfl⟩
          obtain ⟨x2, rfl⟩ : ∃ x2, a2 = some x2 := by
            cases a2 with
            | none => exact absurd (own_none q3) hl0
            | some x2 => exact ⟨x2, rfl⟩
          have csame := fun p m => quiet_from p m (same_any _ _ c1 c2 (some x1) (some x2) ls (w2.drewN (p + m)) hls (own_drewN p3 _) (own_drewN q3 _))
          clear p3 p4 q3 q4
          go_wp2
          go_quiet (fail)
          go_wp2
          go_quiet ((go_at_call 10; exact csame _ _))
          go_wp2
          go_roundw
          case rel => exact ⟨k + 1, _, by omega, by go_num, rfl⟩
          case measure => simp [intOf]; omega
      · go_wp2
        go_ret
        exact ⟨rfl, below_drewN' hbel _⟩
end Go.Proofs.Qxb6601375a
