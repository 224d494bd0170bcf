/-
  markdown.Blocks: what it answers: the blocks of the lines of its argument, in memory of the call's own.
-/
import Derived.Test.Qxb6601375aLines
import Derived.Test.Qxb6601375aSmall
import Derived.Test.Qxb6601375aBoxes
import Derived.Maps.AppendAt
import Derived.RangeFuncCalls
namespace Go.Proofs.Qxb6601375a
open Go Go.RowKit Go.Shelf
open Pl

attribute [local go_sem] Oper.semAt_some

theorem info9 : (Try.prog.info? 9).map (fun i => (i.zero, i.size, i.bytes)) = some (some (.string ByteArray.empty), 1, 16) := by kernel_rfl
theorem info29 : (Try.prog.info? 29).map (fun i => (i.zero, i.size, i.bytes)) = some (some (.agg #[.string ByteArray.empty, .slice none 0 0]), 2, 40) := by kernel_rfl

/-- The lines that have come. -/
def came (pre : List Piece) : List (List UInt8) := pre.map (fun x => trim x.1.data.toList)
theorem came_snoc (pre : List Piece) (x : Piece) : came (pre ++ [x]) = came pre ++ [trim x.1.data.toList] := by simp [came]

/-- Between two rounds: the two variables' boxes, the blocks in memory. B: the heap's size when the call began. -/
def Inv (B : Nat) (w : World) (pre : List Piece) (W : World) : Prop := ∃ v, Held B w W v (run (came pre)).1 (run (came pre)).2

theorem inv_kept {B : Nat} {w : World} {pre : List Piece} {W W' : World} {row : Option Nat} (h : Inv B w pre W) (hg : W.grownBy W' row) (hr : ∀ r, row = some r → (B ≤ r ∧ ∃ o : Obj, W.heap[r]? = some o ∧ o.isCells = false) ∨ r = B + 2) : Inv B w pre W' := by
  obtain ⟨v, h1, h2, h3, h4, h5⟩ := h
  have hne : ∀ k u t, Boxed W k t u → k ≠ B + 2 → some k ≠ row := fun k u t hk hkne e => by
    rcases hr k e.symm with ⟨_, o, ho, hc⟩ | hx
    · rw [show W.heap[k]? = _ from hk] at ho; cases ho; cases hc
    · exact hkne hx
  refine ⟨v, h1.kept hg (hne _ _ _ h1 (by omega)), h2.kept hg (hne _ _ _ h2 (by omega)), h3.kept hg (fun r e => ?_), Nat.le_trans h4 hg.size, h5.grown hg (by omega) (fun k e => ?_)⟩
  · rcases hr r e with ⟨_, h⟩ | h
    · exact .inr h
    · exact .inl (by omega)
  · rcases hr k e with ⟨h, _⟩ | h <;> omega

theorem ends_of {B Bk : Nat} {w : World} {pre : List Piece} {x : Piece} {W W' : World} {v : Value} {y : List UInt8} {i j : Bool} {bs bs' : List Blk} (hy : y = trim x.1.data.toList) (hri : (run (came pre)).1 = i) (hrb : (run (came pre)).2 = bs) (hj : inside i y = j)
    (hb : (if j then (if i then addLast bs y else bs ++ [(y.drop 3, [])]) else bs) = bs') (hh : Held B w W' v j bs') (hk : Kept B W W') :
    KeepsFrom Bk W W' ∧ W'.heap[B + 1 + 1]? = W.heap[B + 1 + 1]? ∧ Inv B w (pre ++ [x]) W' := by
  refine ⟨hk.others.from Bk, hk.box, v, ?_⟩
  have e : run (came (pre ++ [x])) = (j, bs') := by
    rw [came_snoc, run_snoc, ← hy]
    unfold Pl.step
    rw [hri, hrb, hj, hb]
  rw [e]
  exact hh

theorem new_two (W : World) (a b : Value) (t : TypeId) : ∀ (j : Nat) (u : Value), [a, b][j]? = some u → (W.alloc (.cells #[a, b] t)).drew.cell? ((⟨W.heap.size, 0, none⟩ : Addr).add j) = some u := by
  have hh : (W.alloc (.cells #[a, b] t)).drew.heap[W.heap.size]? = some (.cells #[a, b] t) := World.alloc_heap_new W _
  intro j u hj
  match j, hj with
  | 0, hj => simp at hj; subst hj; unfold World.cell?; rw [show ((⟨W.heap.size, 0, none⟩ : Addr).add 0).block = W.heap.size from rfl, hh]; rfl
  | 1, hj => simp at hj; subst hj; unfold World.cell?; rw [show ((⟨W.heap.size, 0, none⟩ : Addr).add 1).block = W.heap.size from rfl, hh]; rfl
theorem new_one (W : World) (a : Value) (t : TypeId) (k : Nat) (hk : k = W.heap.size) : ∀ (j : Nat) (u : Value), [a][j]? = some u → (W.alloc (.cells #[a] t)).cell? ((⟨k, 0, none⟩ : Addr).add j) = some u := by
  subst hk
  exact cell_one_new _ _ _
theorem one_one (l : ByteArray) : ∀ u ∈ [Value.string l], u.oneCell' = true := by
  intro u hu
  simp at hu
  subst hu; rfl
theorem one_two (l : ByteArray) : ∀ u ∈ [Value.string l, Value.slice none 0 0], u.oneCell' = true := by
  intro u hu
  simp at hu
  rcases hu with rfl | rfl <;> rfl
theorem grown_undrew {X w1 : World} {row : Option Nat} (h : X.drew.grownBy w1 row) : X.grownBy w1 row := ⟨h.os, h.tape, h.output, h.size, h.block⟩

set_option maxRecDepth 100000 in
set_option maxHeartbeats 2000000 in
theorem blocks_in (n : Nat) (hn : 4 ≤ n) (s : ByteArray) (hs : s.size ≤ 1048576) (w : World) :
    CallsIn Fence.wide n Try.prog 8 #[.string s] w fun e W' => ∃ v, e = .returned v ∧ IsB 29 (w.heap.size + 3) W' v (run (linesL s.data.toList)).2 ∧ Below w.heap.size w W' := by
  have h1 : 1 ≤ n := by omega
  refine callsIn_of_wp_marks Try.func8 rfl trivial ?_ rfl
  simp only [Try.ntmps8, List.size_toArray, List.length_cons, List.length_nil, Nat.reduceAdd, Nat.reduceSub, Array.replicate_succ, Array.replicate_zero, List.push_toArray, List.append_toArray, List.nil_append, List.cons_append]
  gi_wp2_with (refine ⟨trivial, ?_⟩; gi_at_call 25; refine (callsIn_wide.2 (lines_any _ _)).mono ?_; rintro e w' ⟨rfl, rfl⟩)
  have hS : Boxed (((w.alloc (Obj.cells #[Value.slice none 0 0] 23)).alloc (Obj.cells #[Value.bool false] 4)).alloc (Obj.cells #[Value.string s] 9)) (w.heap.size + 1 + 1) 9 (.string s) := by
    have := Boxed.new ((w.alloc (Obj.cells #[Value.slice none 0 0] 23)).alloc (Obj.cells #[Value.bool false] 4)) 9 (.string s)
    simpa using this
  refine range_cell rfl h1 (gf := 34) (lb := #[.pointer (some ⟨w.heap.size + 1 + 1, 0, none⟩)]) rfl trivial (enters_of Try.func34 (by kernel_rfl) rfl) (encs := fun x : Piece => #[.string x.1]) (fun _ => rfl)
    (w.heap.size + 1 + 1) s.size (by simp) (fun xs => xs.map (fun x => trim x.1.data.toList) = linesL s.data.toList) ?seq (Inv w.heap.size w) ?own ?set ?drew ?start
    (fun x => { tmps := #[.string s, undef, .slice none 0 0, .pointer (some ⟨w.heap.size, 0, none⟩), .pointer (some ⟨w.heap.size + 1, 0, none⟩), .string x.1, undef, undef, .string s,
      .func (.func 34) #[] #[.pointer (some ⟨w.heap.size + 1 + 1, 0, none⟩)], .string x.1, undef, undef, undef, undef, undef, undef, undef, undef, undef, undef, undef, undef, undef, undef, undef, undef, undef, undef, undef, undef, undef, undef, undef, undef, undef, undef, undef, undef, undef, undef, undef, undef, undef, undef, undef, undef, undef, undef, undef], defers := [] }) ?assign ?body ?done
  case seq =>
    intro l J W hJs hJd hY h0 hW
    exact lines1_in (n - 1) (by omega) l (w.heap.size + 1 + 1) s hs J hJs hJd hY W (hW.trans hS) h0
  case own =>
    intro pre W W' row hs hg hr
    refine inv_kept hs hg (fun r e => .inl ?_)
    obtain ⟨h1, h2⟩ := hr r e
    exact ⟨by simp at h1; omega, h2⟩
  case set =>
    intro pre W v hi
    exact inv_kept hi (grownBy_setCell' W (w.heap.size + 1 + 1) v) (fun r e => by cases e; exact .inr rfl)
  case drew => intro pre W hi; exact inv_kept hi (row := none) ⟨rfl, rfl, rfl, Nat.le_refl _, fun _ _ _ => rfl⟩ (fun r e => by cases e)
  case start =>
    refine ⟨.slice none 0 0, ?_, ?_, .inl ⟨rfl, rfl⟩, by simp, (((Below.refl _ w).alloc (Nat.le_refl _) _).alloc (by simp) _).alloc (by simp; omega) _⟩
    · exact ((Boxed.new w 23 (.slice none 0 0)).alloc _).alloc _
    · have := (Boxed.new (w.alloc (Obj.cells #[Value.slice none 0 0] 23)) 4 (.bool false)).alloc (Obj.cells #[Value.string s] 9)
      rw [World.size_alloc] at this
      exact this
  case assign =>
    intro l x W K hK
    gi_wp2
    exact hK
  case body =>
    rintro l pre x W ⟨v, hH⟩ hlen
    have hd : 1 ≤ n - 1 - 1 := by omega
    have hmx : Try.prog.follows .mixedOrders = true := by kernel_rfl
    obtain ⟨y, hy⟩ : ∃ y, Hid (y = trim x.1.data.toList) := ⟨_, rfl⟩
    have ctrim := fun W => trimS_any x.1 W x.2
    rw [← hy.out] at ctrim
    obtain ⟨i, hri⟩ : ∃ i, Hid ((run (came pre)).1 = i) := ⟨_, rfl⟩
    obtain ⟨bs, hrb⟩ : ∃ bs, Hid ((run (came pre)).2 = bs) := ⟨_, rfl⟩
    have hbl : bs.length ≤ pre.length := by rw [← hrb.out]; have := run_len (came pre); simpa [came] using this
    have hll : Hid (∀ b ∈ bs, b.2.length ≤ pre.length) := by
      show ∀ b ∈ bs, b.2.length ≤ pre.length
      rw [← hrb.out]; have := run_lines (came pre); simpa [came] using this
    rw [hri.out, hrb.out] at hH
    have hc4 := hH.b4.cell
    have hf4 := hH.b4.frozen
    cases hi : inside i y with
    | false =>
      obtain ⟨hH2, hK2⟩ := hH.flag false
      gi_wp2_with (first
        | (refine ⟨trivial, ?_⟩; gi_at_call 26; refine (CallsIn.inRound l (callsIn_wide.2 (ctrim _))).mono ?_; rintro e w' ⟨rfl, rfl⟩)
        | (refine ⟨trivial, ?_⟩; gi_at_call 27; refine (CallsIn.inRound l (callsIn_wide.2 (fenced_any _ _ _))).mono ?_; rintro e w' ⟨rfl, rfl⟩; rw [hi]))
      all_goals exact ends_of hy.out hri.out hrb.out hi rfl hH2 hK2
    | true =>
      obtain ⟨hH2, hK2⟩ := hH.flag true
      cases i with
      | false =>
        have hpre : Lib.hasPrefix y fence = true := hi
        obtain ⟨i0, hi0, hz0, hz1, hz2⟩ := info_parts info29
        have hc3 := hH.b3.cell
        gi_wp2_with (first
          | (refine ⟨trivial, ?_⟩; gi_at_call 26; refine (CallsIn.inRound l (callsIn_wide.2 (ctrim _))).mono ?_; rintro e w' ⟨rfl, rfl⟩)
          | (refine ⟨trivial, ?_⟩; gi_at_call 27; refine (CallsIn.inRound l (callsIn_wide.2 (fenced_any _ _ _))).mono ?_; rintro e w' ⟨rfl, rfl⟩; rw [hi]))
        generalize w'.setCell ⟨w.heap.size + 1, 0, none⟩ (.bool true) = W2 at hH2 hK2 ⊢
        have hc32 := hH2.b3.cell
        have hc33 : ∀ o, (W2.alloc o).cell? ⟨w.heap.size, 0, none⟩ = some v := fun o => (hH2.b3.alloc o).cell
        have hm3 : w.heap.size + 3 ≤ (W2.alloc (Obj.cells #[Value.string (mk (List.drop 3 y)), Value.slice none 0 0] 29)).drew.heap.size := by have := hH2.size; simp; omega
        have hm1 : bs.length + 1 ≤ maxLen := by unfold maxLen; omega
        have hm2 : (bs.length + 1) * 40 ≤ 140737488355328 := by omega
        obtain ⟨xs, hrow, hopened⟩ := hH2.opened
        refine wpIn_region_any hmx ?_
        try (change wpAnyIn _ _ _ _ _ _ _ _ _ (World.drew _))
        refine wpAnyIn_ready (rs := [0, 1]) (by kernel_rfl) (by simp) ?_
        refine AllReadyIn.cons rfl (fun K hK => ?_) (AllReadyIn.cons rfl (fun K hK => ?_) AllReadyIn.nil)
        · go_simp
          refine hK _ _ ?_
          clear hK K
          refine wpAnyIn_ready (rs := [1]) (by kernel_rfl) (by simp) ?_
          refine AllReadyIn.cons rfl (fun K hK => ?_) AllReadyIn.nil
          go_simp
          refine hK _ _ ?_
          clear hK K
          refine wpAnyIn_ready (rs := [2]) (by kernel_rfl) (by simp) ?_
          refine AllReadyIn.cons rfl (fun K hK => ?_) AllReadyIn.nil
          go_simp
          gi_wp2_with (refine ⟨trivial, ?_⟩; gi_at_call 28; refine (CallsIn.inRound l (callsIn_wide.2 (trimP_any _ _ hpre))).mono ?_; rintro e w' ⟨rfl, rfl⟩)
          refine wpAnyIn_ready (rs := [3]) (by kernel_rfl) (by simp) ?_
          refine AllReadyIn.cons rfl (fun K hK => ?_) AllReadyIn.nil
          go_simp
          refine hK _ _ ?_
          clear hK K
          refine wpAnyIn_ready (rs := [4]) (by kernel_rfl) (by simp) ?_
          refine AllReadyIn.cons rfl (fun K hK => ?_) AllReadyIn.nil
          go_simp
          refine hK _ _ ?_
          clear hK K
          refine wpAnyIn_ready (rs := [5]) (by kernel_rfl) (by simp) ?_
          refine AllReadyIn.cons rfl (fun K hK => ?_) AllReadyIn.nil
          refine stepIn_append_own rfl (.tmp 23) (.tmp 27) 23 rfl (w.heap.size + 3) 29 i0 (.agg #[.string ByteArray.empty, .slice none 0 0]) 2 40 Try.underlying23 hi0 hz0 hz1 hz2 rfl (by decide) v bs.length xs (hrow.alloc _).drew rfl ⟨_, 0, none⟩ 1 1 [.string (mk (y.drop 3)), .slice none 0 0] rfl rfl (new_two _ _ _ _) (one_two _) hm1 hm2 hm3 ?_
          intro v' w1 hown hgrow
          refine hK _ _ ?_
          clear hK K
          obtain ⟨g', cap', rfl⟩ := ownsRow_succ hown
          obtain ⟨k1, k2, k3⟩ := hopened _ w1 _ (y.drop 3) hown (grown_undrew hgrow)
          clear hown hgrow
          have hc1 := k1.cell
          have hf1 := k1.frozen
          refine wpAnyIn_ready (rs := [6]) (by kernel_rfl) (by simp) ?_
          refine AllReadyIn.cons rfl (fun K hK => ?_) AllReadyIn.nil
          go_simp
          refine hK _ _ ?_
          clear hK K
          refine wpAnyIn_done (by kernel_rfl) ?_ _
          gi_wp2
          exact ends_of hy.out hri.out hrb.out hi rfl k2 (hK2.trans k3)
        · go_simp
          refine hK _ _ ?_
          clear hK K
          refine wpAnyIn_ready (rs := [0, 2]) (by kernel_rfl) (by simp) ?_
          refine AllReadyIn.cons rfl (fun K hK => ?_) (AllReadyIn.cons rfl (fun K hK => ?_) AllReadyIn.nil)
          · go_simp
            refine hK _ _ ?_
            clear hK K
            refine wpAnyIn_ready (rs := [2]) (by kernel_rfl) (by simp) ?_
            refine AllReadyIn.cons rfl (fun K hK => ?_) AllReadyIn.nil
            go_simp
            gi_wp2_with (refine ⟨trivial, ?_⟩; gi_at_call 28; refine (CallsIn.inRound l (callsIn_wide.2 (trimP_any _ _ hpre))).mono ?_; rintro e w' ⟨rfl, rfl⟩)
            refine wpAnyIn_ready (rs := [3]) (by kernel_rfl) (by simp) ?_
            refine AllReadyIn.cons rfl (fun K hK => ?_) AllReadyIn.nil
            go_simp
            refine hK _ _ ?_
            clear hK K
            refine wpAnyIn_ready (rs := [4]) (by kernel_rfl) (by simp) ?_
            refine AllReadyIn.cons rfl (fun K hK => ?_) AllReadyIn.nil
            go_simp
            refine hK _ _ ?_
            clear hK K
            refine wpAnyIn_ready (rs := [5]) (by kernel_rfl) (by simp) ?_
            refine AllReadyIn.cons rfl (fun K hK => ?_) AllReadyIn.nil
            refine stepIn_append_own rfl (.tmp 23) (.tmp 27) 23 rfl (w.heap.size + 3) 29 i0 (.agg #[.string ByteArray.empty, .slice none 0 0]) 2 40 Try.underlying23 hi0 hz0 hz1 hz2 rfl (by decide) v bs.length xs (hrow.alloc _).drew rfl ⟨_, 0, none⟩ 1 1 [.string (mk (y.drop 3)), .slice none 0 0] rfl rfl (new_two _ _ _ _) (one_two _) hm1 hm2 hm3 ?_
            intro v' w1 hown hgrow
            refine hK _ _ ?_
            clear hK K
            obtain ⟨g', cap', rfl⟩ := ownsRow_succ hown
            obtain ⟨k1, k2, k3⟩ := hopened _ w1 _ (y.drop 3) hown (grown_undrew hgrow)
            clear hown hgrow
            have hc1 := k1.cell
            have hf1 := k1.frozen
            refine wpAnyIn_ready (rs := [6]) (by kernel_rfl) (by simp) ?_
            refine AllReadyIn.cons rfl (fun K hK => ?_) AllReadyIn.nil
            go_simp
            refine hK _ _ ?_
            clear hK K
            refine wpAnyIn_done (by kernel_rfl) ?_ _
            gi_wp2
            exact ends_of hy.out hri.out hrb.out hi rfl k2 (hK2.trans k3)
          · go_simp
            gi_wp2_with (refine ⟨trivial, ?_⟩; gi_at_call 28; refine (CallsIn.inRound l (callsIn_wide.2 (trimP_any _ _ hpre))).mono ?_; rintro e w' ⟨rfl, rfl⟩)
            refine wpAnyIn_ready (rs := [0, 3]) (by kernel_rfl) (by simp) ?_
            refine AllReadyIn.cons rfl (fun K hK => ?_) (AllReadyIn.cons rfl (fun K hK => ?_) AllReadyIn.nil)
            · go_simp
              refine hK _ _ ?_
              clear hK K
              refine wpAnyIn_ready (rs := [3]) (by kernel_rfl) (by simp) ?_
              refine AllReadyIn.cons rfl (fun K hK => ?_) AllReadyIn.nil
              go_simp
              refine hK _ _ ?_
              clear hK K
              refine wpAnyIn_ready (rs := [4]) (by kernel_rfl) (by simp) ?_
              refine AllReadyIn.cons rfl (fun K hK => ?_) AllReadyIn.nil
              go_simp
              refine hK _ _ ?_
              clear hK K
              refine wpAnyIn_ready (rs := [5]) (by kernel_rfl) (by simp) ?_
              refine AllReadyIn.cons rfl (fun K hK => ?_) AllReadyIn.nil
              refine stepIn_append_own rfl (.tmp 23) (.tmp 27) 23 rfl (w.heap.size + 3) 29 i0 (.agg #[.string ByteArray.empty, .slice none 0 0]) 2 40 Try.underlying23 hi0 hz0 hz1 hz2 rfl (by decide) v bs.length xs (hrow.alloc _).drew rfl ⟨_, 0, none⟩ 1 1 [.string (mk (y.drop 3)), .slice none 0 0] rfl rfl (new_two _ _ _ _) (one_two _) hm1 hm2 hm3 ?_
              intro v' w1 hown hgrow
              refine hK _ _ ?_
              clear hK K
              obtain ⟨g', cap', rfl⟩ := ownsRow_succ hown
              obtain ⟨k1, k2, k3⟩ := hopened _ w1 _ (y.drop 3) hown (grown_undrew hgrow)
              clear hown hgrow
              have hc1 := k1.cell
              have hf1 := k1.frozen
              refine wpAnyIn_ready (rs := [6]) (by kernel_rfl) (by simp) ?_
              refine AllReadyIn.cons rfl (fun K hK => ?_) AllReadyIn.nil
              go_simp
              refine hK _ _ ?_
              clear hK K
              refine wpAnyIn_done (by kernel_rfl) ?_ _
              gi_wp2
              exact ends_of hy.out hri.out hrb.out hi rfl k2 (hK2.trans k3)
            · go_simp
              refine hK _ _ ?_
              clear hK K
              refine wpAnyIn_ready (rs := [0, 4]) (by kernel_rfl) (by simp) ?_
              refine AllReadyIn.cons rfl (fun K hK => ?_) (AllReadyIn.cons rfl (fun K hK => ?_) AllReadyIn.nil)
              · go_simp
                refine hK _ _ ?_
                clear hK K
                refine wpAnyIn_ready (rs := [4]) (by kernel_rfl) (by simp) ?_
                refine AllReadyIn.cons rfl (fun K hK => ?_) AllReadyIn.nil
                go_simp
                refine hK _ _ ?_
                clear hK K
                refine wpAnyIn_ready (rs := [5]) (by kernel_rfl) (by simp) ?_
                refine AllReadyIn.cons rfl (fun K hK => ?_) AllReadyIn.nil
                refine stepIn_append_own rfl (.tmp 23) (.tmp 27) 23 rfl (w.heap.size + 3) 29 i0 (.agg #[.string ByteArray.empty, .slice none 0 0]) 2 40 Try.underlying23 hi0 hz0 hz1 hz2 rfl (by decide) v bs.length xs (hrow.alloc _).drew rfl ⟨_, 0, none⟩ 1 1 [.string (mk (y.drop 3)), .slice none 0 0] rfl rfl (new_two _ _ _ _) (one_two _) hm1 hm2 hm3 ?_
                intro v' w1 hown hgrow
                refine hK _ _ ?_
                clear hK K
                obtain ⟨g', cap', rfl⟩ := ownsRow_succ hown
                obtain ⟨k1, k2, k3⟩ := hopened _ w1 _ (y.drop 3) hown (grown_undrew hgrow)
                clear hown hgrow
                have hc1 := k1.cell
                have hf1 := k1.frozen
                refine wpAnyIn_ready (rs := [6]) (by kernel_rfl) (by simp) ?_
                refine AllReadyIn.cons rfl (fun K hK => ?_) AllReadyIn.nil
                go_simp
                refine hK _ _ ?_
                clear hK K
                refine wpAnyIn_done (by kernel_rfl) ?_ _
                gi_wp2
                exact ends_of hy.out hri.out hrb.out hi rfl k2 (hK2.trans k3)
              · go_simp
                refine hK _ _ ?_
                clear hK K
                refine wpAnyIn_ready (rs := [0]) (by kernel_rfl) (by simp) ?_
                refine AllReadyIn.cons rfl (fun K hK => ?_) AllReadyIn.nil
                go_simp
                refine hK _ _ ?_
                clear hK K
                refine wpAnyIn_ready (rs := [5]) (by kernel_rfl) (by simp) ?_
                refine AllReadyIn.cons rfl (fun K hK => ?_) AllReadyIn.nil
                refine stepIn_append_own rfl (.tmp 23) (.tmp 27) 23 rfl (w.heap.size + 3) 29 i0 (.agg #[.string ByteArray.empty, .slice none 0 0]) 2 40 Try.underlying23 hi0 hz0 hz1 hz2 rfl (by decide) v bs.length xs (hrow.alloc _).drew rfl ⟨_, 0, none⟩ 1 1 [.string (mk (y.drop 3)), .slice none 0 0] rfl rfl (new_two _ _ _ _) (one_two _) hm1 hm2 hm3 ?_
                intro v' w1 hown hgrow
                refine hK _ _ ?_
                clear hK K
                obtain ⟨g', cap', rfl⟩ := ownsRow_succ hown
                obtain ⟨k1, k2, k3⟩ := hopened _ w1 _ (y.drop 3) hown (grown_undrew hgrow)
                clear hown hgrow
                have hc1 := k1.cell
                have hf1 := k1.frozen
                refine wpAnyIn_ready (rs := [6]) (by kernel_rfl) (by simp) ?_
                refine AllReadyIn.cons rfl (fun K hK => ?_) AllReadyIn.nil
                go_simp
                refine hK _ _ ?_
                clear hK K
                refine wpAnyIn_done (by kernel_rfl) ?_ _
                gi_wp2
                exact ends_of hy.out hri.out hrb.out hi rfl k2 (hK2.trans k3)
      | true =>
        obtain ⟨bs0, b0, hsplit⟩ := run_inside (came pre) hri.out
        rw [hrb.out] at hsplit
        subst hsplit
        obtain ⟨info, ls⟩ := b0
        have hlsl : ls.length ≤ pre.length := hll.out (info, ls) (by simp)
        obtain ⟨i0, hi0, hz0, hz1, hz2⟩ := info_parts info9
        obtain ⟨g, cap, c, lv, rfl, hbg, hcs, hcell, hl, hlined⟩ := hH2.lined
        simp only [Nat.mul_comm 2] at hcell hlined
        have hb0 : bs0.length ≤ 1048576 := by simp at hbl; omega
        clear hbl
        have hc3 := hH.b3.cell
        have hgne : ¬ g = w.heap.size + 1 := by omega
        have hcw : W.cell? ⟨g, bs0.length * 2 + 1, none⟩ = some lv := by
          rw [← hcell]; exact (World.cell?_of_block (Below.heap_setCell W ⟨w.heap.size + 1, 0, none⟩ (.bool true) g hgne)).symm
        have hm1 : ls.length + 1 ≤ maxLen := by unfold maxLen; omega
        have hm2 : (ls.length + 1) * 16 ≤ 140737488355328 := by omega
        have hm3 : c ≤ ((W.setCell ⟨w.heap.size + 1, 0, none⟩ (.bool true)).alloc (.cells #[.string (mk y)] 9)).heap.size := by simp at hcs ⊢; omega
        have hnew := new_one (W.setCell ⟨w.heap.size + 1, 0, none⟩ (.bool true)) (.string (mk y)) 9 W.heap.size (by simp)
        have hone := one_one (mk y)
        gi_wp2_with (first
          | (refine ⟨trivial, ?_⟩; gi_at_call 26; refine (CallsIn.inRound l (callsIn_wide.2 (ctrim _))).mono ?_; rintro e w' ⟨rfl, rfl⟩)
          | (refine ⟨trivial, ?_⟩; gi_at_call 27; refine (CallsIn.inRound l (callsIn_wide.2 (fenced_any _ _ _))).mono ?_; rintro e w' ⟨rfl, rfl⟩; rw [hi])
          | (gi_at_builtin; (refine wpListIn_append_own _ rfl _ _ 27 rfl c 9 i0 (.string ByteArray.empty) 1 16 Try.underlying27 hi0 hz0 hz1 hz2 rfl (by decide) lv ls.length (ls.map str) rfl (hl.alloc _) _ 1 1 [.string (mk y)] rfl rfl hnew hone hm1 hm2 hm3 ?_; intro v' w1 hown hgrow _; obtain ⟨g2, cap2, rfl⟩ := ownsRow_succ hown; obtain ⟨q1, q2, q3, q4⟩ := hlined _ w1 _ y hown hgrow; clear hown hgrow)))
        exact ends_of hy.out hri.out hrb.out hi (addLast_snoc bs0 (info, ls) y) q3 (hK2.trans q4)
  case done =>
    rintro D xs W hD hxs ⟨v, hH⟩ hK
    have hc := hH.b3.cell
    gi_wp2
    refine ⟨by simp, .inl ⟨_, _, rfl, run_takeDeferred hK, ?_⟩⟩
    have hg := grownBy_putObj' W D (.deferred none)
    have hI := hH.isB.kept hg (fun r e => by cases e; exact .inr ⟨_, hK, rfl⟩)
    have hrun : run (came xs) = run (linesL s.data.toList) := by unfold came; rw [hxs]
    rw [hrun] at hI
    exact ⟨_, results_tmp rfl _ _ _, v, rfl, hI, hH.below.grown hg (by have := hH.size; omega) (fun k e => by cases e; simp at hD; omega)⟩

theorem blocks_any (s : ByteArray) (hs : s.size ≤ 1048576) (w : World) :
    Calls Try.prog 8 #[.string s] w fun e W' => ∃ v, e = .returned v ∧ IsB 29 (w.heap.size + 3) W' v (run (linesL s.data.toList)).2 ∧ Below w.heap.size w W' :=
  callsIn_wide.1 (blocks_in 4 (Nat.le_refl _) s hs w)
end Go.Proofs.Qxb6601375a
