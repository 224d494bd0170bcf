/-
  zzBlocksModel: what it answers: the blocks of the lines of its argument, in memory of the call's own.
-/
import Derived.Test.Qxb6601375aKinds
namespace Go.Proofs.Qxb6601375a
open Go Go.RowKit
open Pl

theorem info31 : (Try.prog.info? 31).map (fun i => (i.zero, i.size, i.bytes)) = some (some (.agg #[.string ByteArray.empty, .slice none 0 0]), 2, 40) := by kernel_rfl
theorem info9' : (Try.prog.info? 9).map (fun i => (i.zero, i.size, i.bytes)) = some (some (.string ByteArray.empty), 1, 16) := by kernel_rfl

theorem slice_form {W : World} {base : Nat} {e : TypeId} {size n : Nat} {v : Value} {xs : List Value} (h : W.ownsRow base e size v n xs) : ∃ a c, v = .slice a n c := by
  rcases h.2 with ⟨rfl, rfl⟩ | ⟨g, cap, cur, rfl, _⟩
  · exact ⟨_, _, rfl⟩
  · exact ⟨_, _, rfl⟩
theorem undrewN {X w1 : World} {tmp : Obj} {row : Option Nat} {q : Nat} (h : ((X.drewN q).alloc tmp).grownBy w1 row) : (X.alloc tmp).grownBy w1 row := ⟨h.os, h.tape, h.output, h.size, h.block⟩
theorem new_twoN (W : World) (a b : Value) (t : TypeId) (q : Nat) : ∀ (j : Nat) (u : Value), [a, b][j]? = some u → ((W.drewN q).alloc (.cells #[a, b] t)).cell? ((⟨W.heap.size, 0, none⟩ : Addr).add j) = some u := by
  have hh : ((W.drewN q).alloc (.cells #[a, b] t)).heap[W.heap.size]? = some (.cells #[a, b] t) := World.alloc_heap_new (W.drewN q) _
  intro j u hj
  match j, hj with
  | 0, hj => simp at hj; subst hj; unfold World.cell?; rw [show ((⟨W.heap.size, 0, none⟩ : Addr).add 0).block = W.heap.size from rfl, hh]; rfl
  | 1, hj => simp at hj; subst hj; unfold World.cell?; rw [show ((⟨W.heap.size, 0, none⟩ : Addr).add 1).block = W.heap.size from rfl, hh]; rfl
theorem new_oneN (W : World) (a : Value) (t : TypeId) (q : Nat) : ∀ (j : Nat) (u : Value), [a][j]? = some u → ((W.drewN q).alloc (.cells #[a] t)).cell? ((⟨W.heap.size, 0, none⟩ : Addr).add j) = some u := by
  have hh : ((W.drewN q).alloc (.cells #[a] t)).heap[W.heap.size]? = some (.cells #[a] t) := World.alloc_heap_new (W.drewN q) _
  intro j u hj
  match j, hj with
  | 0, hj => simp at hj; subst hj; unfold World.cell?; rw [show ((⟨W.heap.size, 0, none⟩ : Addr).add 0).block = W.heap.size from rfl, hh]; rfl
theorem one_twoM (l : ByteArray) : ∀ u ∈ [Value.string l, Value.slice none 0 0], u.oneCell' = true := by
  intro u hu
  simp at hu
  rcases hu with rfl | rfl <;> rfl
theorem one_oneM (l : ByteArray) : ∀ u ∈ [Value.string l], u.oneCell' = true := by
  intro u hu
  simp at hu
  subst hu; rfl
theorem IsB.drewN {T : TypeId} {base : Nat} {W : World} {v : Value} {bs : List Blk} (h : IsB T base W v bs) (q : Nat) : IsB T base (W.drewN q) v bs :=
  h.kept (row := none) ⟨rfl, rfl, rfl, Nat.le_refl _, fun _ _ _ => rfl⟩ (fun r e => by cases e)

theorem Done.lower {base base' c : Nat} {W : World} (hb : base' ≤ base) : ∀ {bs : List Blk} {vs : List Value}, Done base c W bs vs → Done base' c W bs vs
  | [], [], _ => trivial
  | _ :: _, _ :: _, h => ⟨⟨own_lower h.1.1 hb, h.1.2.1, h.1.2.2⟩, Done.lower hb h.2⟩
  | [], _ :: _, h => h.elim
  | _ :: _, [], h => h.elim
theorem IsB.lower {T : TypeId} {base base' : Nat} {W : World} {v : Value} {bs : List Blk} (h : IsB T base W v bs) (hb : base' ≤ base) : IsB T base' W v bs := by
  rcases h with h | ⟨g, cap, c, bs0, vs0, info, ls, lv, hv, hbs, hbc, hrow, hd, hl, hn⟩
  · exact .inl h
  · exact .inr ⟨g, cap, c, bs0, vs0, info, ls, lv, hv, hbs, ⟨by omega, hbc.2⟩, own_lower hrow hb, hd.lower hb, hl, hn⟩

set_option maxHeartbeats 3200000 in
theorem model_any (s : ByteArray) (w : World) (hs : s.size ≤ 1048576) :
    Calls Try.prog 9 #[.string s] w fun e W' => ∃ v, e = .returned v ∧ IsB 31 w.heap.size W' v (run (linesL s.data.toList)).2 ∧ Below w.heap.size w W' := by
  go_enter Try.func9, Try.ntmps9
  go_wp2_with fail
  refine (bounds_any s _ hs).mono ?_
  rintro e w1 ⟨v1, v2, ps, rfl, hP, hpl, hT, hb1⟩
  obtain ⟨a1, c1, rfl⟩ := slice_form hT.one
  obtain ⟨a2, c2, rfl⟩ := slice_form hT.two
  go_wp2_with fail
  refine (kinds_any s _ _ _ _ _ _ _ hs hP hpl hT).mono ?_
  rintro e w2 ⟨g3, ks, rfl, hown3, hks, hb2⟩
  go_wp2
  go_loopw [6, 7] (fun v i wr => ∃ k : Nat, k ≤ ps.length ∧ i = .int .i64 k ∧ IsB 31 w2.heap.size wr v (ahead s k).2 ∧ Below w2.heap.size w2 wr) (fun _ i _ => ps.length - (intOf i).toNat)
  case atStart => exact ⟨0, Nat.zero_le _, rfl, .inl ⟨rfl, rfl⟩, Below.refl _ _⟩
  case round =>
    obtain ⟨k, hk, rfl, hB, hnx⟩ := hrel
    have hsz := hnx.size
    by_cases hlt : k < ps.length
    · have hb12 : Below w1.heap.size w1 wr := hb2.trans (hnx.mono hb2.size)
      obtain ⟨g1, g2, rfl, rfl, hc1, hc2⟩ := hT.cells hb12 hlt
      obtain ⟨⟨a, b⟩, hp⟩ : ∃ p, ps[k] = p := ⟨_, rfl⟩
      have HP : Hid (ps[k] = (a, b)) := hp
      rw [hp] at hc1 hc2
      have hab : a ≤ b ∧ b ≤ s.size := by have := hP.2 ps[k] (List.getElem_mem hlt); rw [hp] at this; exact this
      obtain ⟨o, ho⟩ : ∃ o, Hid ((ahead s k).1 = o) := ⟨_, rfl⟩
      obtain ⟨bs, hbs⟩ : ∃ bs, Hid ((ahead s k).2 = bs) := ⟨_, rfl⟩
      rw [hbs.out] at hB
      obtain ⟨L, hL⟩ : ∃ L, s.extract a b = L := ⟨_, rfl⟩
      obtain ⟨y, hy⟩ : ∃ y, Hid (L.data.toList = y) := ⟨_, rfl⟩
      have hLs : L.size ≤ 1048576 := by rw [← hL, ByteArray.size_extract]; omega
      have hKa : Hid (kindAt s k = kindOf o y) := by
        show kindAt s k = kindOf o y
        rw [kindAt_eq hP hlt, hp, ho.out, hL, hy.out]
      have hA : Hid (ahead s (k + 1) = Pl.step (o, bs) y) := by
        show ahead s (k + 1) = Pl.step (o, bs) y
        rw [ahead_succ hP hlt, hp]
        show Pl.step _ (s.extract a b).data.toList = _
        rw [hL, hy.out, ← ho.out, ← hbs.out]
      have hcK : wr.cell? ⟨g3, k, none⟩ = some (.int .i64 (kindOf o y : Int)) := by
        rw [hnx.cell (p := ⟨g3, k, none⟩) (hown3.lt g3 rfl).2, hown3.cellAt k (by omega), hks k hlt, hKa.out]
      have hbl : bs.length ≤ 1048576 := by
        rw [← hbs.out]; have := run_len ((linesL s.data.toList).take k); simp at this; unfold ahead; omega
      have hll : Hid (∀ x ∈ bs, x.2.length ≤ 1048576) := by
        show ∀ x ∈ bs, x.2.length ≤ 1048576
        rw [← hbs.out]
        intro x hx
        have := run_lines ((linesL s.data.toList).take k) x hx
        simp at this
        omega
      clear hp
      have i0 : (k : Int) < (ps.length : Int) := by omega
      have i1 : (0 : Int) ≤ (a : Int) := by omega
      have i2 : (a : Int) ≤ (b : Int) := by omega
      have i3 : (b : Int) ≤ (s.size : Int) := by omega
      have same : inside o y = false → (ahead s (k + 1)).2 = bs := fun h => by rw [hA.out]; show (if inside o y then _ else bs) = bs; rw [h]; rfl
      have SAME : Hid (inside o y = false → (ahead s (k + 1)).2 = bs) := same
      clear same
      cases o with
      | true =>
        by_cases hf : (y == fence) = true
        · have hin := SAME.out (ins_tt hf)
          have HIN : Hid ((ahead s (k + 1)).2 = bs) := hin
          clear hin
          rw [← kin_tt hf] at hcK
          go_wp2
          go_quiet (fail)
          go_wp2
          go_roundw
          case rel => exact ⟨k + 1, by omega, by go_num, by rw [HIN.out]; exact hB.drewN _, below_drewN' hnx _⟩
          case measure => simp [intOf]; omega
        · simp only [Bool.not_eq_true] at hf
          rw [← kin_tf hf] at hcK
          obtain ⟨bs0, b0, hsplit⟩ := run_inside ((linesL s.data.toList).take k) ho.out
          have hsplit' : bs = bs0 ++ [b0] := by rw [← hbs.out]; exact hsplit
          clear hsplit
          subst hsplit'
          obtain ⟨info, ls⟩ := b0
          have hlsl : ls.length ≤ 1048576 := hll.out (info, ls) (by simp)
          have HIN : Hid ((ahead s (k + 1)).2 = bs0 ++ [(info, ls ++ [y])]) := by
            show (ahead s (k + 1)).2 = _
            rw [hA.out]
            show (if inside true y then (if true then addLast _ y else _) else _) = _
            rw [ins_tf hf, if_pos rfl, if_pos rfl, addLast_snoc]
          obtain ⟨i9, hi9, hz90, hz91, hz92⟩ := info_parts info9'
          obtain ⟨g, cap, c, lv, rfl, hbg, hgs, hbc, hcell, hl, hline⟩ := hB.line_row (by decide)
          simp only [Nat.mul_comm 2] at hcell hline
          have hb0 : bs0.length ≤ 1048576 := by simp at hbl; omega
          have hM : L = mk y := mk_of hy.out
          clear hbl
          have hm1 : ls.length + 1 ≤ maxLen := by unfold maxLen; omega
          have hm2 : (ls.length + 1) * 16 ≤ 140737488355328 := by omega
          have hm3 : ∀ q, c ≤ ((wr.drewN q).alloc (.cells #[.string (mk y)] 9)).heap.size := fun q => by have := hbc.2; simp; omega
          have hj1 : (bs0.length : Int) < (bs0.length : Int) + 1 := by omega
          go_wp2
          go_quiet (fail)
          go_wp2_with (at_builtin; (refine wpList_append_own _ rfl _ _ 27 rfl c 9 i9 (.string ByteArray.empty) 1 16 Try.underlying27 hi9 hz90 hz91 hz92 rfl (by decide) lv ls.length (ls.map str) rfl ((own_drewN hl _).alloc _) ⟨wr.heap.size, 0, none⟩ 1 1 [.string (mk y)] rfl rfl (new_oneN _ _ _ _) (one_oneM _) hm1 hm2 (hm3 _) ?_; intro v' w3 hown' hgrow _; obtain ⟨g4, cap4, rfl⟩ := ownsRow_succ hown'; obtain ⟨q1, q2, q3⟩ := hline _ w3 _ y hown' (undrewN hgrow); have hbel := (hnx.grown (grown_alloc (undrewN hgrow)) hsz (fun k hk => Nat.le_trans hbc.1 (hl.lt k hk).1)).setCell (p := ⟨g, bs0.length * 2 + 1, none⟩) hbg (.slice (some ⟨g4, 0, none⟩) (ls.length + 1) cap4); clear hown' hgrow))
          go_roundw
          case rel => exact ⟨k + 1, by omega, by go_num, by rw [HIN.out]; simpa using q3, hbel⟩
          case measure => simp [intOf]; omega
      | false =>
        by_cases hf : begins y = true
        · rw [← kin_ft hf] at hcK
          have HIN : Hid ((ahead s (k + 1)).2 = bs ++ [(y.drop 3, [])]) := by
            show (ahead s (k + 1)).2 = _
            rw [hA.out]
            show (if inside false y then (if false then _ else bs ++ [(y.drop 3, [])]) else _) = _
            rw [show inside false y = true from hf, if_pos rfl, if_neg Bool.false_ne_true]
          have h3 : 3 ≤ L.size := by
            rcases Nat.lt_or_ge L.size 3 with h | h
            · have := begins_short L h; rw [hy.out, hf] at this; cases this
            · exact h
          have hE : L.extract 3 L.size = mk (y.drop 3) := by
            apply mk_of
            rw [Lib.extract_data, ← hy.out]
            exact List.take_of_length_le (by simp)
          obtain ⟨i9, hi9, hz90, hz91, hz92⟩ := info_parts info31
          obtain ⟨xs, hrow, hopen⟩ := hB.open_row (by decide)
          have hm1 : bs.length + 1 ≤ maxLen := by unfold maxLen; omega
          have hm2 : (bs.length + 1) * 40 ≤ 140737488355328 := by omega
          have hm3 : ∀ q, w2.heap.size ≤ ((wr.drewN q).alloc (.cells #[.string (mk (y.drop 3)), .slice none 0 0] 31)).heap.size := fun q => by simp; omega
          go_wp2
          go_quiet (fail)
          go_wp2_with (at_builtin; (refine wpList_append_own _ rfl _ _ 25 rfl w2.heap.size 31 i9 (.agg #[.string ByteArray.empty, .slice none 0 0]) 2 40 Try.underlying25 hi9 hz90 hz91 hz92 rfl (by decide) u6 bs.length xs rfl ((own_drewN hrow _).alloc _) ⟨wr.heap.size, 0, none⟩ 1 1 [.string (mk (y.drop 3)), .slice none 0 0] rfl rfl (new_twoN _ _ _ _ _) (one_twoM _) hm1 hm2 (hm3 _) ?_; intro v' w3 hown' hgrow _; obtain ⟨g4, cap4, rfl⟩ := ownsRow_succ hown'; have hnew := hopen _ w3 _ (y.drop 3) hsz hown' (undrewN hgrow); have hbel := hnx.grown (grown_alloc (undrewN hgrow)) hsz (fun k hk => (hrow.lt k hk).1); clear hown' hgrow))
          go_roundw
          case rel => exact ⟨k + 1, by omega, by go_num, by rw [HIN.out]; exact hnew, hbel⟩
          case measure => simp [intOf]; omega
        · simp only [Bool.not_eq_true] at hf
          have hin := SAME.out hf
          have HIN : Hid ((ahead s (k + 1)).2 = bs) := hin
          clear hin
          rw [← kin_ff hf] at hcK
          go_wp2
          go_quiet (fail)
          go_wp2
          go_roundw
          case rel => exact ⟨k + 1, by omega, by go_num, by rw [HIN.out]; exact hB.drewN _, below_drewN' hnx _⟩
          case measure => simp [intOf]; omega
    · have hfin : (ahead s k).2 = (run (linesL s.data.toList)).2 := by
        unfold ahead
        rw [List.take_of_length_le (by rw [hP.1, List.length_map]; omega)]
      rw [hfin] at hB
      have hz1 := hb1.size
      have hz2 := hb2.size
      have hbase : w.heap.size ≤ w2.heap.size := by omega
      have hfb : Below w.heap.size w wr := hb1.trans ((hb2.mono hz1).trans (hnx.mono hbase))
      clear hfin
      go_wp2
      go_ret
      exact ⟨_, rfl, hB.lower hbase, hfb⟩
end Go.Proofs.Qxb6601375a
