/-
  THE WALK OF FnTierOfMatchesNameModel: three ways: the caller empty; the locality empty; neither.
-/
import Derived.Test.Qxb6600934aCommon
import Derived.Test.Qxb6600934aCompared
import Derived.Deep.QuietTactic
import Derived.BigQuiet
namespace Go.Proofs.Qxb6600934a
open Go.RowKit
theorem cmpL_of {s : ByteArray} {ds : List ByteArray} (h0 : s.toList.isEmpty = false) (h : Pl.splitL s.data.toList = ds.map (fun x => x.data.toList)) :
    Pl.cmpL s.data.toList = Pl.cmpN (lists ds) ∧ Pl.nNames s.data.toList = ds.length ∧ 0 < ds.length ∧ ds.length ≤ s.size + 1 := by
  have e : ds.length = s.data.toList.count 47 + 1 := by rw [← Pl.splitL_length, h, List.length_map]
  refine ⟨?_, ?_, by omega, ?_⟩
  · unfold Pl.cmpL
    rw [if_neg (isEmpty_no h0), h]
    rfl
  · unfold Pl.nNames
    rw [if_neg (isEmpty_no h0), e]
  · have := count_le s
    unfold Lib.countByte at this
    omega
theorem tier_c_empty {c l : ByteArray} (h : c.toList.isEmpty = true) : tierB c l = 0 := by
  have e := (isEmpty_iff c).1 h
  unfold tierB
  rw [e, Pl.cmpL_nil, Pl.pre_nil_left]
  rfl
theorem tier_l_empty {c l : ByteArray} (h : l.toList.isEmpty = true) : tierB c l = Pl.nNames c.data.toList := by
  have e := (isEmpty_iff l).1 h
  unfold tierB
  rw [e, Pl.cmpL_nil, Pl.pre_nil_right]
  omega
theorem below_drewN' {B : Nat} {w w' : World} (h : Below B w w') (n : Nat) : Below B w (w'.drewN n) := ⟨h.os, h.tape, h.output, h.size, h.block⟩
theorem below_from {w w' : World} {n : Nat} (h : Below (w.drewN n).heap.size (w.drewN n) w') : Below w.heap.size w w' := ⟨h.os, h.tape, h.output, h.size, h.block⟩

set_option maxHeartbeats 1600000 in
theorem walk_c_empty (a0 : ByteArray) (a1 : ByteArray) (w0 : a0.size ≤ maxLen) (w1 : a1.size ≤ maxLen) (w : World) (hb : a0.size + a1.size ≤ 1048576) (hc0 : a0.size ≤ 524288) (hc1 : a1.size ≤ 524288) (c0 : a0.toList.isEmpty = true) :
    Calls Try.prog 3 #[.string a0, .string a1] w fun e w' => e = .returned (.bool true) ∧ Below w.heap.size w w' := by
  have hbt : b2 a0 a1 = true := (b2_true hb).symm
  have hz0 : a0.size ≤ 2097153 := by omega
  have hz1 : a1.size ≤ 2097153 := by omega
  have hm1 : a1.size ≤ 1048576 := by omega
  have HT : Hid (tierB a0 a1 = 0) := tier_c_empty c0
  by_cases c1 : a1.toList.isEmpty = true
  · go_enter Try.func3, Try.ntmps3
    go_wp2_with (go_at_call 8; refine (bytes8 _ _ _ w0 w1).mono ?_; rintro e w' ⟨rfl, rfl⟩)
    refine (zztierOf_any _ _ _ hz0 hz1).mono ?_
    rintro e w2 ⟨rfl, n1, rfl⟩
    go_wp2_with fail
    refine (names_empty _ _ c0).mono ?_
    rintro e w3 ⟨rfl, rfl⟩
    go_wp2_with fail
    refine (names_empty _ _ c1).mono ?_
    rintro e w4 ⟨rfl, rfl⟩
    go_wp2_with fail
    refine (compared_nil _).mono ?_
    rintro e w5 ⟨rfl, rfl⟩
    go_wp2_with fail
    refine (compared_nil _).mono ?_
    rintro e w6 ⟨rfl, rfl⟩
    go_wp2
    refine wp_loop_rounds 1 ?_
    rw [rounds_succ]
    go_wp2
    go_quiet (fail)
    go_wp2
    go_ret
    exact ⟨ret_bool (by rw [HT.out]; rfl), below_drewN' (Below.refl _ _) _⟩
  · simp only [Bool.not_eq_true] at c1
    go_enter Try.func3, Try.ntmps3
    go_wp2_with (go_at_call 8; refine (bytes8 _ _ _ w0 w1).mono ?_; rintro e w' ⟨rfl, rfl⟩)
    refine (zztierOf_any _ _ _ hz0 hz1).mono ?_
    rintro e w2 ⟨rfl, n1, rfl⟩
    go_wp2_with fail
    refine (names_empty _ _ c0).mono ?_
    rintro e w3 ⟨rfl, rfl⟩
    go_wp2_with fail
    refine (names_any _ _ hm1 c1).mono ?_
    rintro e w4 ⟨ds, g, cap, rfl, hsp, hown, hbel⟩
    obtain ⟨_, _, hpos, hle⟩ := cmpL_of c1 hsp
    have hbel' := below_from hbel
    clear hsp hbel
    have hle2 : ds.length ≤ 2097152 := by omega
    go_wp2_with fail
    refine (compared_nil _).mono ?_
    rintro e w5 ⟨rfl, rfl⟩
    go_wp2_with fail
    refine (compared_row _ _ _ _ _ hpos hle2 hown).mono ?_
    rintro e w6 ⟨rfl, rfl⟩
    clear hown
    go_wp2
    refine wp_loop_rounds 1 ?_
    rw [rounds_succ]
    go_wp2
    go_quiet (fail)
    go_wp2
    go_ret
    exact ⟨ret_bool (by rw [HT.out]; rfl), below_drewN' hbel' _⟩

set_option maxHeartbeats 1600000 in
theorem walk_l_empty (a0 : ByteArray) (a1 : ByteArray) (w0 : a0.size ≤ maxLen) (w1 : a1.size ≤ maxLen) (w : World) (hb : a0.size + a1.size ≤ 1048576) (hc0 : a0.size ≤ 524288) (hc1 : a1.size ≤ 524288) (c0 : a0.toList.isEmpty = false) (c1 : a1.toList.isEmpty = true) :
    Calls Try.prog 3 #[.string a0, .string a1] w fun e w' => e = .returned (.bool true) ∧ Below w.heap.size w w' := by
  have hbt : b2 a0 a1 = true := (b2_true hb).symm
  have hz0 : a0.size ≤ 2097153 := by omega
  have hz1 : a1.size ≤ 2097153 := by omega
  have hm0 : a0.size ≤ 1048576 := by omega
  go_enter Try.func3, Try.ntmps3
  go_wp2_with (go_at_call 8; refine (bytes8 _ _ _ w0 w1).mono ?_; rintro e w' ⟨rfl, rfl⟩)
  refine (zztierOf_any _ _ _ hz0 hz1).mono ?_
  rintro e w2 ⟨rfl, n1, rfl⟩
  go_wp2_with fail
  refine (names_any _ _ hm0 c0).mono ?_
  rintro e w3 ⟨ds, g, cap, rfl, hsp, hown, hbel⟩
  obtain ⟨_, hN, hpos, hle⟩ := cmpL_of c0 hsp
  have HT : Hid (tierB a0 a1 = ds.length) := by
    show tierB a0 a1 = ds.length
    rw [tier_l_empty c1, hN]
  have hbel' := below_from hbel
  clear hsp hbel hN
  have hle2 : ds.length ≤ 2097152 := by omega
  go_wp2_with fail
  refine (names_empty _ _ c1).mono ?_
  rintro e w4 ⟨rfl, rfl⟩
  go_wp2_with fail
  refine (compared_row _ _ _ _ _ hpos hle2 hown).mono ?_
  rintro e w5 ⟨rfl, rfl⟩
  clear hown
  go_wp2_with fail
  refine (compared_nil _).mono ?_
  rintro e w6 ⟨rfl, rfl⟩
  by_cases hk : 0 < (Pl.cmpN (lists ds)).length
  all_goals
    go_wp2
    refine wp_loop_rounds 1 ?_
    rw [rounds_succ]
    go_wp2
    go_quiet (fail)
    go_wp2
    go_ret
    exact ⟨ret_bool (by rw [HT.out]; simp), below_drewN' hbel' _⟩

/-- What the model's loop has come to. -/
def Came (ds es : List ByteArray) (j : Nat) : Prop :=
  Pl.pre (Pl.cmpN (lists ds)) (Pl.cmpN (lists es)) = j + Pl.pre ((Pl.cmpN (lists ds)).drop j) ((Pl.cmpN (lists es)).drop j)
theorem came_start (ds es : List ByteArray) : Came ds es 0 := by unfold Came; simp
theorem came_round {ds es : List ByteArray} {j : Nat} (h : Came ds es j) (hx : j < (Pl.cmpN (lists ds)).length) (hy : j < (Pl.cmpN (lists es)).length) (hd : j < ds.length) (he : j < es.length) (hq : (ds[j].toList == es[j].toList) = true) : Came ds es (j + 1) := by
  have := round_same hx hy hd he hq
  unfold Came at h ⊢
  omega
theorem came_diff {ds es : List ByteArray} {j : Nat} (h : Came ds es j) (hx : j < (Pl.cmpN (lists ds)).length) (hy : j < (Pl.cmpN (lists es)).length) (hd : j < ds.length) (he : j < es.length) (hq : (ds[j].toList == es[j].toList) = false) : Pl.pre (Pl.cmpN (lists ds)) (Pl.cmpN (lists es)) = j := by
  have := round_diff hx hy hd he hq
  unfold Came at h
  omega
theorem came_out {ds es : List ByteArray} {j : Nat} (h : Came ds es j) (ho : (Pl.cmpN (lists ds)).length ≤ j ∨ (Pl.cmpN (lists es)).length ≤ j) : Pl.pre (Pl.cmpN (lists ds)) (Pl.cmpN (lists es)) = j := by
  have := pre_out (X := Pl.cmpN (lists ds)) (Y := Pl.cmpN (lists es)) (j := j) ho
  unfold Came at h
  omega

set_option maxHeartbeats 3200000 in
theorem walk_both (a0 : ByteArray) (a1 : ByteArray) (w0 : a0.size ≤ maxLen) (w1 : a1.size ≤ maxLen) (w : World) (hb : a0.size + a1.size ≤ 1048576) (hc0 : a0.size ≤ 524288) (hc1 : a1.size ≤ 524288) (c0 : a0.toList.isEmpty = false) (c1 : a1.toList.isEmpty = false) :
    Calls Try.prog 3 #[.string a0, .string a1] w fun e w' => e = .returned (.bool true) ∧ Below w.heap.size w w' := by
  have hbt : b2 a0 a1 = true := (b2_true hb).symm
  have hz0 : a0.size ≤ 2097153 := by omega
  have hz1 : a1.size ≤ 2097153 := by omega
  have hm0 : a0.size ≤ 1048576 := by omega
  have hm1 : a1.size ≤ 1048576 := by omega
  go_enter Try.func3, Try.ntmps3
  go_wp2_with (go_at_call 8; refine (bytes8 _ _ _ w0 w1).mono ?_; rintro e w' ⟨rfl, rfl⟩)
  refine (zztierOf_any _ _ _ hz0 hz1).mono ?_
  rintro e w2 ⟨rfl, n1, rfl⟩
  go_wp2_with fail
  refine (names_any _ _ hm0 c0).mono ?_
  rintro e w3 ⟨ds, g, cap, rfl, hsp, hown, hbel⟩
  obtain ⟨hC0, hN, hpos, hle⟩ := cmpL_of c0 hsp
  have hbel' := below_from hbel
  clear hsp hbel
  have hle2 : ds.length ≤ 2097152 := by omega
  go_wp2_with fail
  refine (names_any _ _ hm1 c1).mono ?_
  rintro e w4 ⟨es, g', cap', rfl, hsp, hown', hbel⟩
  obtain ⟨hC1, _, hpos', hle'⟩ := cmpL_of c1 hsp
  have HT : Hid (tierB a0 a1 = (ds.length : Int) - Pl.pre (Pl.cmpN (lists ds)) (Pl.cmpN (lists es))) := by
    show tierB a0 a1 = (ds.length : Int) - Pl.pre (Pl.cmpN (lists ds)) (Pl.cmpN (lists es))
    unfold tierB
    rw [hC0, hC1, hN]
  have hown4 := own_below hown hbel
  have hbel4 : Below w'.heap.size w' w4 := hbel'.trans (hbel.mono hbel'.size)
  clear hsp hbel hown hbel' hC0 hC1 hN
  have hle3 : es.length ≤ 2097152 := by omega
  have hcd := cmpN_le (lists ds)
  have hce := cmpN_le (lists es)
  have hld : (lists ds).length = ds.length := by simp [lists]
  have hlese : (lists es).length = es.length := by simp [lists]
  rw [hld] at hcd
  rw [hlese] at hce
  clear hld hlese
  go_wp2_with fail
  refine (compared_row _ _ _ _ _ hpos hle2 hown4).mono ?_
  rintro e w5 ⟨rfl, rfl⟩
  go_wp2_with fail
  refine (compared_row _ _ _ _ _ hpos' hle3 hown').mono ?_
  rintro e w6 ⟨rfl, rfl⟩
  by_cases hk : (Pl.cmpN (lists es)).length < (Pl.cmpN (lists ds)).length
  all_goals
    go_wp2
    go_loopw [10] (fun i wr => ∃ j n : Nat, j ≤ (Pl.cmpN (lists ds)).length ∧ j ≤ (Pl.cmpN (lists es)).length ∧ i = .int .i64 j ∧ Came ds es j ∧ wr = w6.drewN n) (fun i _ => (Pl.cmpN (lists ds)).length - (intOf i).toNat)
    case atStart => exact ⟨0, 0, Nat.zero_le _, Nat.zero_le _, rfl, came_start ds es, rfl⟩
    case round =>
      obtain ⟨j, n, hj0, hj1, rfl, hcame, rfl⟩ := hrel
      by_cases hjk : j < (Pl.cmpN (lists ds)).length ∧ j < (Pl.cmpN (lists es)).length
      · obtain ⟨hx, hy⟩ := hjk
        have hd : j < ds.length := by omega
        have he : j < es.length := by omega
        have cell0 := row_cell hown4 j hd
        have cell1 := row_cell hown' j he
        have i0 : (j : Int) < (ds.length : Int) := by omega
        have i1 : (j : Int) < (es.length : Int) := by omega
        by_cases hq : (ds[j].toList == es[j].toList) = true
        · have hcame' := came_round hcame hx hy hd he hq
          go_wp2
          go_quiet (fail)
          go_wp2
          go_roundw
          case rel => exact ⟨j + 1, _, by omega, by omega, by go_num, hcame', rfl⟩
          case measure => simp [intOf]; omega
        · simp only [Bool.not_eq_true] at hq
          have hend : Hid (Pl.pre (Pl.cmpN (lists ds)) (Pl.cmpN (lists es)) = j) := came_diff hcame hx hy hd he hq
          go_wp2
          go_quiet (fail)
          go_wp2
          go_ret
          exact ⟨ret_bool (by rw [HT.out, hend.out]; simp), below_drewN' hbel4 _⟩
      · have hend : Hid (Pl.pre (Pl.cmpN (lists ds)) (Pl.cmpN (lists es)) = j) := came_out hcame (by omega)
        first | have hf : decide (j < (Pl.cmpN (lists ds)).length) = false := decide_eq_false (by omega) | have hf : decide (j < (Pl.cmpN (lists es)).length) = false := decide_eq_false (by omega)
        go_wp2
        go_quiet (fail)
        go_wp2
        go_ret
        exact ⟨ret_bool (by rw [HT.out, hend.out]; simp), below_drewN' hbel4 _⟩
end Go.Proofs.Qxb6600934a
