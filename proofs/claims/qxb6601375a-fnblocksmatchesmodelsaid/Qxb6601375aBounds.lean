/-
  zzLineBounds: what it answers: where each line begins and ends.
-/
import Derived.Test.Qxb6601375aSmall
import Derived.Below
import Derived.Maps.AppendAt
import Derived.ArgAppend
namespace Go.Proofs.Qxb6601375a
open Go Go.RowKit
open Pl

theorem info3 : (Try.prog.info? 3).map (fun i => (i.zero, i.size, i.bytes)) = some (some (.int .i64 0), 1, 8) := by kernel_rfl
def ival (n : Nat) : Value := .int .i64 (n : Int)

theorem grown_alloc {W w' : World} {o : Obj} {row : Option Nat} (h : (W.alloc o).grownBy w' row) : W.grownBy w' row :=
  ⟨h.os, h.tape, h.output, by have := h.size; simp at this; omega, fun k hk hr => (h.block k (by simp; omega) hr).trans (Below.heap_alloc _ _ _ hk)⟩

/-- 'xs = append(xs, y)', xs a row of ints of the call's own: in its old block, or in a new one. -/
theorem append_int {ops : Array Oper} {rest : List Oper} {o : Oper} {a : Act} {Q : Exit → Act → World → Prop} (W : World) (hgd : o.guard = none) (s x : Operand)
    (ho : o.op = .call { callee := .builtin .append, args := #[s, x], argTypes := #[54, 54] }) (base : Nat) (v : Value) (ns : List Nat) (n : Nat) (hnl : ns.length = n) (hown : W.ownsRow base 3 1 v n (ns.map ival)) (hs : a.eval s = v)
    (y : Nat) (hx : a.eval x = .slice (some ⟨W.heap.size, 0, none⟩) 1 1) (hn : n ≤ 2097152) (hbase : base ≤ W.heap.size)
    (h : ∀ g cap w', w'.ownsRow base 3 1 (.slice (some ⟨g, 0, none⟩) (n + 1) cap) (n + 1) ((ns ++ [y]).map ival) → W.grownBy w' v.ownBlock → (v.ownBlock = some g ∨ W.heap.size ≤ g) →
      wpList Try.prog ops Q rest (a.put o.dst (.slice (some ⟨g, 0, none⟩) (n + 1) cap)) w') :
    wpList Try.prog ops Q (o :: rest) a (W.alloc (.cells #[ival y] 3)) := by
  obtain ⟨i0, hi, hz0, hz1, hz2⟩ := info_parts info3
  have hm1 : n + 1 ≤ maxLen := by unfold maxLen; omega
  have hm2 : (n + 1) * 8 ≤ 140737488355328 := by omega
  have hone : ∀ u ∈ [ival y], u.oneCell' = true := by intro u hu; simp at hu; subst hu; rfl
  have hcells : ∀ g cap, v = .slice (some ⟨g, 0, none⟩) n cap → ∀ j u, (ns.map ival)[j]? = some u → (W.alloc (.cells #[ival y] 3)).cell? ((⟨g, 0, none⟩ : Addr).add j) = some u := fun g cap hv j u hj => (hown.alloc _).cells (g := g) (by rw [hv]; rfl) j u hj
  rcases hown.2 with ⟨hv, hn0⟩ | ⟨g, cap, cur, hv, hbg, hgb, hnc, _⟩
  · -- a nil slice: a new block
    refine wpList_append_own _ hgd s x 54 ho (W.alloc (.cells #[ival y] 3)).heap.size 3 i0 (.int .i64 0) 1 8 Try.underlying54 hi hz0 hz1 hz2 rfl (by decide) v n (ns.map ival) hs ?_ ⟨W.heap.size, 0, none⟩ 1 1 [ival y] hx rfl (cell_one_new _ _ _) hone hm1 hm2 (Nat.le_refl _) ?_
    · have hnil : ns = [] := List.length_eq_zero_iff.1 (hnl.trans hn0)
      subst hnil
      subst hn0
      rw [hv]
      exact World.ownsRow_nil _ _ _ _
    · intro v' w1 hown' hgrow _
      obtain ⟨g3, cap3, rfl⟩ : ∃ g3 cap3, v' = .slice (some ⟨g3, 0, none⟩) (n + 1) cap3 := by
        rcases hown'.2 with ⟨_, h⟩ | ⟨g3, cap3, _, h, _⟩
        · omega
        · exact ⟨g3, cap3, h⟩
      have hlt := (hown'.lt g3 rfl).1
      simp at hlt
      refine h g3 cap3 w1 (by simpa using own_lower hown' (by simp; omega)) (grown_alloc hgrow) (.inr (by omega))
  · by_cases hroom : n + 1 ≤ cap
    · refine wpList_append_fits _ hgd s x 54 ho base 3 i0 1 Try.underlying54 hi hz1 g n cap (ns.map ival) (hs.trans hv) (by rw [← hv]; exact hown.alloc _) ⟨W.heap.size, 0, none⟩ 1 1 [ival y] hx rfl (cell_one_new _ _ _) hone hroom ?_
      intro w1 hown' hgrow
      exact h g cap w1 (by simpa using hown') (by rw [hv]; exact grown_alloc hgrow) (.inl (by rw [hv]; rfl))
    · refine wpList_append_grows _ hgd s x 54 ho 3 i0 (.int .i64 0) 1 8 Try.underlying54 hi hz0 hz1 hz2 rfl (by decide) (some ⟨g, 0, none⟩) n cap (ns.map ival) (hs.trans hv) (fun h => by cases h) (by simp [hnl]) (fun b hb => by cases hb; exact hcells g cap hv) ⟨W.heap.size, 0, none⟩ 1 1 [ival y] hx rfl (cell_one_new _ _ _) hone (by omega) hm1 hm2 ?_
      intro v' w1 hown' hgrow
      obtain ⟨g3, cap3, rfl⟩ : ∃ g3 cap3, v' = .slice (some ⟨g3, 0, none⟩) (n + 1) cap3 := by
        rcases hown'.2 with ⟨_, h⟩ | ⟨g3, cap3, _, h, _⟩
        · omega
        · exact ⟨g3, cap3, h⟩
      have hlt := (hown'.lt g3 rfl).1
      simp at hlt
      have hg2 := grown_alloc hgrow
      refine h g3 cap3 w1 (by simpa using own_lower hown' (by simp; omega)) ⟨hg2.os, hg2.tape, hg2.output, hg2.size, fun k hk _ => hg2.block k hk (by simp)⟩ (.inr (by omega))

theorem keep_other {W W' : World} {base n : Nat} {v1 v2 : Value} {xs : List Value} (h2 : W.ownsRow base 3 1 v2 n xs) (hg : W.grownBy W' v1.ownBlock) (sep : ∀ k, v1.ownBlock = some k → v2.ownBlock ≠ some k) : W'.ownsRow base 3 1 v2 n xs := by
  refine h2.kept hg ?_
  rcases hk : v2.ownBlock with _ | k
  · exact .inl rfl
  · exact .inr fun e => sep k e.symm hk
theorem sep_new {W : World} {base n g : Nat} {v1 v2 : Value} {xs : List Value} (h2 : W.ownsRow base 3 1 v2 n xs) (sep : ∀ k, v1.ownBlock = some k → v2.ownBlock ≠ some k) (hg : v1.ownBlock = some g ∨ W.heap.size ≤ g) : v2.ownBlock ≠ some g := by
  rcases hg with h | h
  · exact sep g h
  · intro e; have := (h2.lt g e).2; omega

theorem two_sep {W : World} {base n g1 g2 n1 n2 c1 c2 : Nat} {v2 : Value} {xs : List Value} (h1 : W.ownsRow base 3 1 (.slice (some ⟨g1, 0, none⟩) n1 c1) n xs) (hs : v2.ownBlock ≠ some g1) (hg : v2.ownBlock = some g2 ∨ W.heap.size ≤ g2) :
    ∀ k, (Value.slice (some ⟨g1, 0, none⟩) n1 c1).ownBlock = some k → (Value.slice (some ⟨g2, 0, none⟩) n2 c2).ownBlock ≠ some k := by
  intro k h e
  have h' : g1 = k := by simpa [Value.ownBlock] using h
  have e' : g2 = k := by simpa [Value.ownBlock] using e
  subst h'
  subst e'
  rcases hg with q | q
  · exact hs q
  · have := (h1.lt g2 rfl).2; omega

/-- Two rows of ints, each in a block of its own. -/
structure Two (base : Nat) (W : World) (v1 v2 : Value) (ps : List (Nat × Nat)) : Prop where
  one : W.ownsRow base 3 1 v1 ps.length ((ps.map Prod.fst).map ival)
  two : W.ownsRow base 3 1 v2 ps.length ((ps.map Prod.snd).map ival)
  sep : ∀ k, v1.ownBlock = some k → v2.ownBlock ≠ some k

/-- Where the walk of a text's bytes has come to: ps are the lines that are done, the line in hand begins at a. -/
def Bnd (s : ByteArray) (ps : List (Nat × Nat)) (a k : Nat) : Prop :=
  linesL s.data.toList = ps.map (fun p => (s.extract p.1 p.2).data.toList) ++ consP (s.extract a k).data.toList (linesL (s.data.toList.drop k)) ∧ ∀ p ∈ ps, p.1 ≤ p.2 ∧ p.2 ≤ s.size

theorem drop_at (s : ByteArray) (k : Nat) (h : k < s.size) : s.data.toList.drop k = s[k] :: s.data.toList.drop (k + 1) := by
  rw [List.drop_eq_getElem_cons (by simpa using h)]; rfl
theorem bnd_start (s : ByteArray) : Bnd s [] 0 0 := by
  unfold Bnd
  rw [Lib.extract_data]
  simp [consP_nil]
theorem bnd_nl {s : ByteArray} {ps : List (Nat × Nat)} {a k : Nat} (h : k < s.size) (hak : a ≤ k) (hi : Bnd s ps a k) (hc : ((s[k].toNat : Int) == 10) = true) : Bnd s (ps ++ [(a, k)]) (k + 1) (k + 1) := by
  have hc' : s[k] = 10 := by
    simp only [beq_iff_eq] at hc
    exact UInt8.toNat_inj.1 (by have : (10 : UInt8).toNat = 10 := rfl; omega)
  obtain ⟨h1, h2⟩ := hi
  refine ⟨?_, ?_⟩
  · rw [h1, drop_at s k h, hc', linesL_nl, Lib.extract_data s (k + 1) (k + 1), Nat.sub_self, List.take_zero, consP_nil]
    simp [consP]
  · intro p hp
    rcases List.mem_append.1 hp with e | e
    · exact h2 p e
    · simp only [List.mem_singleton] at e; subst e; exact ⟨hak, by show k ≤ s.size; omega⟩
theorem bnd_other {s : ByteArray} {ps : List (Nat × Nat)} {a k : Nat} (h : k < s.size) (hak : a ≤ k) (hi : Bnd s ps a k) (hc : ((s[k].toNat : Int) == 10) = false) : Bnd s ps a (k + 1) := by
  have hc' : s[k] ≠ 10 := by
    intro e
    rw [e] at hc
    exact absurd hc (by decide)
  have he : (s.extract a (k + 1)).data.toList = (s.extract a k).data.toList ++ [s[k]] := by
    rw [Lib.extract_data, Lib.extract_data, show k + 1 - a = (k - a) + 1 by omega, List.take_add_one, List.getElem?_drop, show a + (k - a) = k by omega]
    have : s.data.toList[k]? = some s[k] := by
      rw [List.getElem?_eq_getElem (by simpa using h)]; rfl
    rw [this]; rfl
  obtain ⟨h1, h2⟩ := hi
  refine ⟨?_, h2⟩
  rw [h1, drop_at s k h, linesL_other _ _ hc', consP_two _ _ (by simp), he]
/-- The lines, by their places. -/
def Places (s : ByteArray) (ps : List (Nat × Nat)) : Prop := linesL s.data.toList = ps.map (fun p => (s.extract p.1 p.2).data.toList) ∧ ∀ p ∈ ps, p.1 ≤ p.2 ∧ p.2 ≤ s.size
theorem bnd_end_more {s : ByteArray} {ps : List (Nat × Nat)} {a k : Nat} (h : ¬ k < s.size) (hk : k ≤ s.size) (ha : a < s.size) (hi : Bnd s ps a k) : Places s (ps ++ [(a, s.size)]) := by
  have e : k = s.size := by omega
  subst e
  obtain ⟨h1, h2⟩ := hi
  refine ⟨?_, ?_⟩
  · rw [h1, List.drop_of_length_le (by simp)]
    have hne : (s.extract a s.size).data.toList ≠ [] := by
      intro e
      have := congrArg List.length e
      rw [Lib.extract_data] at this
      simp at this
      omega
    rw [show linesL [] = [] from rfl, show consP (s.extract a s.size).data.toList [] = [(s.extract a s.size).data.toList] from if_neg hne]
    simp
  · intro p hp
    rcases List.mem_append.1 hp with e | e
    · exact h2 p e
    · simp only [List.mem_singleton] at e; subst e; exact ⟨by show a ≤ s.size; omega, Nat.le_refl _⟩
theorem bnd_end_none {s : ByteArray} {ps : List (Nat × Nat)} {a k : Nat} (h : ¬ k < s.size) (hk : k ≤ s.size) (ha : ¬ a < s.size) (hi : Bnd s ps a k) : Places s ps := by
  have e : k = s.size := by omega
  subst e
  obtain ⟨h1, h2⟩ := hi
  refine ⟨?_, h2⟩
  rw [h1, List.drop_of_length_le (by simp)]
  have he : (s.extract a s.size).data.toList = [] := by
    rw [Lib.extract_data]
    apply List.eq_nil_of_length_eq_zero
    simp; omega
  rw [he]
  simp [linesL, consP]

set_option maxHeartbeats 1600000 in
theorem bounds_any (s : ByteArray) (w : World) (hs : s.size ≤ 1048576) :
    Calls Try.prog 29 #[.string s] w fun e w' => ∃ (v1 v2 : Value) (ps : List (Nat × Nat)), e = .returned (.tuple #[v1, v2]) ∧ Places s ps ∧ ps.length ≤ s.size ∧ Two w.heap.size w' v1 v2 ps ∧ Below w.heap.size w w' := by
  go_enter Try.func29, Try.ntmps29
  go_wp2
  go_loopw [4, 5, 6, 7] (fun v1 v2 st i wr => ∃ (k a : Nat) (ps : List (Nat × Nat)), k ≤ s.size ∧ a ≤ k ∧ ps.length + (k - a) ≤ k ∧ i = .int .i64 k ∧ st = .int .i64 a ∧ Two w.heap.size wr v1 v2 ps ∧ Below w.heap.size w wr ∧ Bnd s ps a k)
    (fun _ _ _ i _ => s.size - (intOf i).toNat)
  case atStart => exact ⟨0, 0, [], Nat.zero_le _, Nat.le_refl _, Nat.le_refl _, rfl, rfl, ⟨World.ownsRow_nil _ _ _ _, World.ownsRow_nil _ _ _ _, fun k hk => by cases hk⟩, Below.refl _ _, bnd_start s⟩
  case round =>
    obtain ⟨k, a, ps, hk, hak, hpk, rfl, rfl, hT, hnx, hinv⟩ := hrel
    have hsz := hnx.size
    have hl1 : (ps.map Prod.fst).length = ps.length := List.length_map _
    have hl2 : (ps.map Prod.snd).length = ps.length := List.length_map _
    have L1 : Hid ((ps.map Prod.fst).length = ps.length) := hl1
    have L2 : Hid ((ps.map Prod.snd).length = ps.length) := hl2
    clear hl1 hl2
    have hpl : ps.length ≤ 2097152 := by omega
    have r1 := hT.one
    have r2 := hT.two
    have hsep : Hid (∀ k, u4.ownBlock = some k → u5.ownBlock ≠ some k) := hT.sep
    by_cases hlt : k < s.size
    · by_cases hc : ((s[k].toNat : Int) == 10) = true
      · go_wp2_with (first
          | (at_builtin; refine append_int wr rfl _ _ rfl w.heap.size u4 (ps.map Prod.fst) ps.length L1.out r1 rfl a rfl hpl hsz ?_; intro g1 cap1 w1 q1 hg1 hf1; clear r1; have hz1 := hg1.size; have p2 := keep_other r2 hg1 hsep.out; have hs2 : Hid (u5.ownBlock ≠ some g1) := sep_new r2 hsep.out hf1; clear r2; have hb1 := hnx.grown hg1 hsz (fun k hk => (hT.one.lt k hk).1))
          | (at_builtin; refine append_int w1 rfl _ _ rfl w.heap.size u5 (ps.map Prod.snd) ps.length L2.out p2 rfl k rfl hpl (Nat.le_trans hsz hz1) ?_; intro g2 cap2 w2 q2 hg2 hf2; have hb2 := hb1.grown hg2 hb1.size (fun k hk => (p2.lt k hk).1); have p1 := keep_other q1 hg2 (fun k h1 h2 => hs2.out (by rw [h1, ← h2]; rfl)); have hs3 : Hid (∀ k, (Value.slice (some ⟨g1, 0, none⟩) (ps.length + 1) cap1).ownBlock = some k → (Value.slice (some ⟨g2, 0, none⟩) (ps.length + 1) cap2).ownBlock ≠ some k) := two_sep q1 hs2.out hf2; clear p2 q1 hg1 hg2 hf1 hf2))
        go_roundw
        case rel => exact ⟨k + 1, k + 1, ps ++ [(a, k)], by omega, by omega, by simp; omega, by go_num, by go_num, ⟨by simpa using p1, by simpa using q2, hs3.out⟩, hb2, bnd_nl hlt hak hinv hc⟩
        case measure => simp [intOf]; omega
      · simp only [Bool.not_eq_true] at hc
        go_wp2
        go_roundw
        case rel => exact ⟨k + 1, a, ps, by omega, by omega, by omega, by go_num, rfl, hT, hnx, bnd_other hlt hak hinv hc⟩
        case measure => simp [intOf]; omega
    · by_cases ha : a < s.size
      · go_wp2_with (first
          | (at_builtin; refine append_int wr rfl _ _ rfl w.heap.size u4 (ps.map Prod.fst) ps.length L1.out r1 rfl a rfl hpl hsz ?_; intro g1 cap1 w1 q1 hg1 hf1; clear r1; have hz1 := hg1.size; have p2 := keep_other r2 hg1 hsep.out; have hs2 : Hid (u5.ownBlock ≠ some g1) := sep_new r2 hsep.out hf1; clear r2; have hb1 := hnx.grown hg1 hsz (fun k hk => (hT.one.lt k hk).1))
          | (at_builtin; refine append_int w1 rfl _ _ rfl w.heap.size u5 (ps.map Prod.snd) ps.length L2.out p2 rfl s.size rfl hpl (Nat.le_trans hsz hz1) ?_; intro g2 cap2 w2 q2 hg2 hf2; have hb2 := hb1.grown hg2 hb1.size (fun k hk => (p2.lt k hk).1); have p1 := keep_other q1 hg2 (fun k h1 h2 => hs2.out (by rw [h1, ← h2]; rfl)); have hs3 : Hid (∀ k, (Value.slice (some ⟨g1, 0, none⟩) (ps.length + 1) cap1).ownBlock = some k → (Value.slice (some ⟨g2, 0, none⟩) (ps.length + 1) cap2).ownBlock ≠ some k) := two_sep q1 hs2.out hf2; clear p2 q1 hg1 hg2 hf1 hf2))
        go_ret2
        exact ⟨_, _, ps ++ [(a, s.size)], rfl, bnd_end_more hlt hk ha hinv, by simp; omega, ⟨by simpa using p1, by simpa using q2, hs3.out⟩, hb2⟩
      · go_wp2
        go_ret2
        exact ⟨_, _, ps, rfl, bnd_end_none hlt hk ha hinv, by omega, hT, hnx⟩
end Go.Proofs.Qxb6601375a
