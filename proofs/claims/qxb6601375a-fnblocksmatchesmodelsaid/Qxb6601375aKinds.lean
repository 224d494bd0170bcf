/-
  zzLineKinds: what it answers: the kind of each line.
-/
import Derived.Test.Qxb6601375aBounds
import Derived.OwnWalk
import Derived.Deep.QuietTactic
import Derived.BigQuiet
namespace Go.Proofs.Qxb6601375a
open Go Go.RowKit
open Pl

/-- The kind of a line, by whether it stands inside a block. -/
def kindOf (i : Bool) (x : List UInt8) : Nat := if i then (if x == fence then 3 else 2) else (if begins x then 1 else 0)
/-- The state ahead of line k. -/
def ahead (s : ByteArray) (k : Nat) : Bool × List Blk := run ((linesL s.data.toList).take k)
def kindAt (s : ByteArray) (k : Nat) : Nat := kindOf (ahead s k).1 ((linesL s.data.toList).getD k [])

theorem ahead_zero (s : ByteArray) : ahead s 0 = (false, []) := rfl
theorem ahead_succ {s : ByteArray} {ps : List (Nat × Nat)} {k : Nat} (hP : Places s ps) (hk : k < ps.length) : ahead s (k + 1) = Pl.step (ahead s k) (s.extract ps[k].1 ps[k].2).data.toList := by
  unfold ahead
  have hl : k < (linesL s.data.toList).length := by rw [hP.1, List.length_map]; exact hk
  rw [List.take_succ_eq_append_getElem hl, run_snoc]
  congr 1
  simp [hP.1]
theorem kindAt_eq {s : ByteArray} {ps : List (Nat × Nat)} {k : Nat} (hP : Places s ps) (hk : k < ps.length) : kindAt s k = kindOf (ahead s k).1 (s.extract ps[k].1 ps[k].2).data.toList := by
  unfold kindAt
  have hl : k < (linesL s.data.toList).length := by rw [hP.1, List.length_map]; exact hk
  congr 1
  rw [List.getD_eq_getElem?_getD, List.getElem?_eq_getElem hl]
  simp [hP.1]

/-- Two rows of ints that lie below the call's own memory: read cell by cell. -/
theorem Two.cells {base : Nat} {W W' : World} {a1 a2 : Option Addr} {c1 c2 : Nat} {ps : List (Nat × Nat)} (hT : Two base W (.slice a1 ps.length c1) (.slice a2 ps.length c2) ps) (hb : Below W.heap.size W W') {k : Nat} (hk : k < ps.length) :
    ∃ g1 g2, a1 = some ⟨g1, 0, none⟩ ∧ a2 = some ⟨g2, 0, none⟩ ∧ W'.cell? ⟨g1, k, none⟩ = some (.int .i64 (ps[k].1 : Int)) ∧ W'.cell? ⟨g2, k, none⟩ = some (.int .i64 (ps[k].2 : Int)) := by
  have key : ∀ (a : Option Addr) (c : Nat) (f : Nat × Nat → Nat), W.ownsRow base 3 1 (.slice a ps.length c) ps.length ((ps.map f).map ival) → ∃ g, a = some ⟨g, 0, none⟩ ∧ W'.cell? ⟨g, k, none⟩ = some (.int .i64 (f ps[k] : Int)) := by
    intro a c f h
    rcases h.2 with ⟨_, h0⟩ | ⟨g, cap, cur, hv, hbg, hgb, _⟩
    · omega
    · simp only [Value.slice.injEq] at hv
      obtain ⟨rfl, _, rfl⟩ := hv
      refine ⟨g, rfl, ?_⟩
      rw [hb.cell (p := ⟨g, k, none⟩) (Array.getElem?_eq_some_iff.1 hgb).1, h.cellAt k (by omega)]
      simp [hk, ival]
  obtain ⟨g1, e1, h1⟩ := key a1 c1 Prod.fst hT.one
  obtain ⟨g2, e2, h2⟩ := key a2 c2 Prod.snd hT.two
  exact ⟨g1, g2, e1, e2, h1, h2⟩

theorem own_drewN {W : World} {base : Nat} {e : TypeId} {size n : Nat} {v : Value} {xs : List Value} (h : W.ownsRow base e size v n xs) (q : Nat) : (W.drewN q).ownsRow base e size v n xs := h
theorem below_drewN' {B : Nat} {w w' : World} (h : Below B w w') (n : Nat) : Below B w (w'.drewN n) := ⟨h.os, h.tape, h.output, h.size, h.block⟩

theorem ins_tt {x : List UInt8} (h : (x == fence) = true) : inside true x = false := by unfold inside; rw [if_pos rfl, h]; rfl
theorem ins_tf {x : List UInt8} (h : (x == fence) = false) : inside true x = true := by unfold inside; rw [if_pos rfl, h]; rfl
theorem kin_tt {x : List UInt8} (h : (x == fence) = true) : (3 : Int) = (kindOf true x : Int) := by unfold kindOf; rw [if_pos rfl, if_pos h]; rfl
theorem kin_tf {x : List UInt8} (h : (x == fence) = false) : (2 : Int) = (kindOf true x : Int) := by unfold kindOf; rw [if_pos rfl, if_neg (by rw [h]; exact Bool.false_ne_true)]; rfl
theorem kin_ft {x : List UInt8} (h : begins x = true) : (1 : Int) = (kindOf false x : Int) := by unfold kindOf; rw [if_neg Bool.false_ne_true, if_pos h]; rfl
theorem kin_ff {x : List UInt8} (h : begins x = false) : (0 : Int) = (kindOf false x : Int) := by unfold kindOf; rw [if_neg Bool.false_ne_true, if_neg (by rw [h]; exact Bool.false_ne_true)]; rfl
theorem own_stored {W : World} {base n : Nat} {ks : List Value} {m : Nat} (h : W.ownsRow base 3 1 (.slice (some ⟨base, 0, none⟩) n m) n ks) (k : Nat) (u : Value) :
    (W.setCell ⟨base, k, none⟩ u).ownsRow base 3 1 (.slice (some ⟨base, 0, none⟩) n m) n (ks.set k u) ∧ Below base W (W.setCell ⟨base, k, none⟩ u) :=
  ⟨(h.stored k u).1, (Below.refl base W).setCell (p := ⟨base, k, none⟩) (Nat.le_refl _) u⟩
theorem next_o {s : ByteArray} {ps : List (Nat × Nat)} {k a b : Nat} {o o' : Bool} (hP : Places s ps) (hk : k < ps.length) (hp : ps[k] = (a, b)) (ho : (ahead s k).1 = o) (hi : inside o (s.extract a b).data.toList = o') : Hid ((ahead s (k + 1)).1 = o') := by
  show (ahead s (k + 1)).1 = o'
  rw [ahead_succ hP hk, hp]
  show inside (ahead s k).1 _ = o'
  rw [ho]; exact hi
theorem next_k {s : ByteArray} {ps : List (Nat × Nat)} {k a b : Nat} {o : Bool} {ks : List Value} {x : Int} (hP : Places s ps) (hk : k < ps.length) (hp : ps[k] = (a, b)) (ho : (ahead s k).1 = o) (hl : ks.length = ps.length)
    (hks : ∀ j, j < k → ks[j]? = some (.int .i64 (kindAt s j : Int))) (hx : x = (kindOf o (s.extract a b).data.toList : Int)) : Hid (∀ j, j < k + 1 → (ks.set k (.int .i64 x))[j]? = some (.int .i64 (kindAt s j : Int))) := by
  show ∀ j, j < k + 1 → (ks.set k (.int .i64 x))[j]? = some (.int .i64 (kindAt s j : Int))
  intro j hj
  by_cases e : j = k
  · subst e
    rw [List.getElem?_set_self (by omega), hx, kindAt_eq hP hk, hp, ho]
  · rw [List.getElem?_set_ne (fun h => e h.symm)]
    exact hks j (by omega)

set_option maxHeartbeats 1600000 in
theorem kinds_any (s : ByteArray) (base : Nat) (a1 a2 : Option Addr) (c1 c2 : Nat) (ps : List (Nat × Nat)) (w : World) (hs : s.size ≤ 1048576) (hP : Places s ps) (hl : ps.length ≤ s.size) (hT : Two base w (.slice a1 ps.length c1) (.slice a2 ps.length c2) ps) :
    Calls Try.prog 30 #[.string s, .slice a1 ps.length c1, .slice a2 ps.length c2] w fun e w' => ∃ (g3 : Nat) (ks : List Value), e = .returned (.slice (some ⟨g3, 0, none⟩) ps.length ps.length) ∧
      w'.ownsRow w.heap.size 3 1 (.slice (some ⟨g3, 0, none⟩) ps.length ps.length) ps.length ks ∧ (∀ j, j < ps.length → ks[j]? = some (.int .i64 (kindAt s j : Int))) ∧ Below w.heap.size w w' := by
  obtain ⟨i0, hi, hz0, hz1, hz2⟩ := info_parts info3
  have hm1 : i0.bytes * ps.length ≤ 281474976710656 := by rw [hz2]; omega
  have hm2 : ps.length ≤ maxLen := by unfold maxLen; omega
  go_enter Try.func30, Try.ntmps30
  go_wp2_with (refine wpList_make_full _ rfl _ _ 54 rfl w.heap.size 3 i0 (.int .i64 0) 1 Try.underlying54 hi hz0 hz1 .i64 .i64 _ _ ps.length rfl rfl rfl rfl hm1 hm2 (Nat.le_refl _) ?_; intro w1 hown1 hg1)
  go_loopw [8, 9] (fun o i wr => ∃ (k : Nat) (ks : List Value) (o' : Bool), k ≤ ps.length ∧ i = .int .i64 k ∧ o = .bool o' ∧ Hid ((ahead s k).1 = o') ∧ wr.ownsRow w.heap.size 3 1 (.slice (some ⟨w.heap.size, 0, none⟩) ps.length ps.length) ps.length ks ∧
      Hid (∀ j, j < k → ks[j]? = some (.int .i64 (kindAt s j : Int))) ∧ Below w.heap.size w wr) (fun _ i _ => ps.length - (intOf i).toNat)
  case atStart => exact ⟨0, _, false, Nat.zero_le _, rfl, rfl, rfl, hown1, fun j hj => absurd hj (Nat.not_lt_zero _), (Below.refl _ _).grown hg1 (Nat.le_refl _) (fun k e => by cases e)⟩
  case round =>
    obtain ⟨k, ks, o', hk, rfl, rfl, ho, hown, hks, hnx⟩ := hrel
    by_cases hlt : k < ps.length
    · obtain ⟨g1, g2, rfl, rfl, hc1, hc2⟩ := hT.cells hnx hlt
      obtain ⟨⟨a, b⟩, hp⟩ : ∃ p, ps[k] = p := ⟨_, rfl⟩
      have HP : Hid (ps[k] = (a, b)) := hp
      rw [hp] at hc1 hc2
      have hab : a ≤ b ∧ b ≤ s.size := by have := hP.2 ps[k] (List.getElem_mem hlt); rw [hp] at this; exact this
      clear hp
      have hsz : (s.extract a b).size ≤ 1048576 := by rw [ByteArray.size_extract]; omega
      have i0 : (k : Int) < (ps.length : Int) := by omega
      have i1 : (0 : Int) ≤ (a : Int) := by omega
      have i2 : (a : Int) ≤ (b : Int) := by omega
      have i3 : (b : Int) ≤ (s.size : Int) := by omega
      have hlen : ks.length = ps.length := by simpa using hown.1
      obtain ⟨uk, hKs⟩ : ∃ uk, ks[k]? = some uk := ⟨_, List.getElem?_eq_getElem (by omega)⟩
      have hcK : wr.cell? ⟨w.heap.size, k, none⟩ = some uk := by rw [hown.cellAt k (by omega), hKs]
      have hfK := hown.frozenAt k
      have hs1 := fun q u => own_stored (own_drewN hown q) k u
      have HL : Hid (ks.length = ps.length) := hlen
      clear hlen hKs
      cases o' with
      | true =>
        by_cases hf : ((s.extract a b).data.toList == fence) = true
        · go_wp2
          go_quiet (fail)
          go_wp2_with (go_at_call 15; refine (isFence_any _ _ hsz).mono ?_; rintro e w' ⟨rfl, rfl⟩; rw [hf])
          go_roundw
          case rel => exact ⟨k + 1, _, false, by omega, by go_num, rfl, next_o hP hlt HP.out ho.out (ins_tt hf), (hs1 _ _).1, next_k hP hlt HP.out ho.out HL.out hks.out (kin_tt hf), (below_drewN' hnx _).trans (hs1 _ _).2⟩
          case measure => simp [intOf]; omega
        · simp only [Bool.not_eq_true] at hf
          go_wp2
          go_quiet (fail)
          go_wp2_with (go_at_call 15; refine (isFence_any _ _ hsz).mono ?_; rintro e w' ⟨rfl, rfl⟩; rw [hf])
          go_roundw
          case rel => exact ⟨k + 1, _, true, by omega, by go_num, rfl, next_o hP hlt HP.out ho.out (ins_tf hf), (hs1 _ _).1, next_k hP hlt HP.out ho.out HL.out hks.out (kin_tf hf), (below_drewN' hnx _).trans (hs1 _ _).2⟩
          case measure => simp [intOf]; omega
      | false =>
        by_cases hf : begins (s.extract a b).data.toList = true
        · go_wp2
          go_quiet (fail)
          go_wp2_with (go_at_call 16; refine (begins_any _ _ hsz).mono ?_; rintro e w' ⟨rfl, rfl⟩; rw [hf])
          go_roundw
          case rel => exact ⟨k + 1, _, true, by omega, by go_num, rfl, next_o hP hlt HP.out ho.out hf, (hs1 _ _).1, next_k hP hlt HP.out ho.out HL.out hks.out (kin_ft hf), (below_drewN' hnx _).trans (hs1 _ _).2⟩
          case measure => simp [intOf]; omega
        · simp only [Bool.not_eq_true] at hf
          go_wp2
          go_quiet (fail)
          go_wp2_with (go_at_call 16; refine (begins_any _ _ hsz).mono ?_; rintro e w' ⟨rfl, rfl⟩; rw [hf])
          go_roundw
          case rel => exact ⟨k + 1, _, false, by omega, by go_num, rfl, next_o hP hlt HP.out ho.out hf, (hs1 _ _).1, next_k hP hlt HP.out ho.out HL.out hks.out (kin_ff hf), (below_drewN' hnx _).trans (hs1 _ _).2⟩
          case measure => simp [intOf]; omega
    · go_wp2
      go_ret
      exact ⟨_, ks, rfl, hown, fun j hj => hks.out j (by omega), hnx⟩
end Go.Proofs.Qxb6601375a
