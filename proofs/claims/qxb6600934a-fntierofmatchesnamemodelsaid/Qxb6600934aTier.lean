/-
  strings.Cut at the separator of one byte, tierOf, ZZTierOf, zzFirstName: what each answers.
-/
import Derived.Test.Qxb6600934aCommon
import Derived.Test.Qxb6600934aPlain2
import Derived.Deep.QuietTactic
import Derived.BigQuiet
namespace Go.Proofs.Qxb6600934a
open Go.RowKit
open Pl

set_option maxHeartbeats 800000 in
theorem cut22 (s : ByteArray) (w : World) (hs : s.size ≤ 2097153) :
    Calls Try.prog 22 #[.string s, .string ⟨#[47]⟩] w fun e w' => ∃ (h r : ByteArray) (b : Bool), e = .returned (.tuple #[.string h, .string r, .bool b]) ∧
      h.data.toList = headL s.data.toList ∧ r.data.toList = restL s.data.toList ∧ ∃ n, w' = w.drewN n := by
  by_cases hm : Lib.indexByte s.data.toList 47 = -1
  · have HH : Hid (headL s.data.toList = s.data.toList ∧ restL s.data.toList = []) := head_none _ (fun j => Lib.indexByte_none hm j)
    go_enter Try.func22, Try.ntmps22
    go_wp2_with (go_at_call 26; refine (Try.stringslite_Index_one _ _ _).mono ?_; rintro e w' ⟨rfl, rfl⟩; rw [hm])
    go_ret3
    exact ⟨_, _, _, rfl, HH.out.1.symm, HH.out.2.symm, 0, rfl⟩
  · have hge := Lib.indexByte_ge s.data.toList 47
    obtain ⟨i, hi⟩ : ∃ i : Nat, Lib.indexByte s.data.toList 47 = i := ⟨(Lib.indexByte s.data.toList 47).toNat, by omega⟩
    obtain ⟨h1, h2⟩ := Lib.indexByte_some hi
    have hlt : i < s.size := by
      have := (List.getElem?_eq_some_iff.1 h1).1
      simpa using this
    have HH : Hid (headL s.data.toList = s.data.toList.take i ∧ restL s.data.toList = s.data.toList.drop (i + 1)) := head_at _ _ h1 h2
    clear h1 h2 hm hge
    have c1 : (0 : Int) ≤ ↑i := by omega
    have c2 : (↑i : Int) ≤ ↑s.size := by omega
    have c3 : (0 : Int) ≤ ↑i + 1 := by omega
    have c4 : (↑i + 1 : Int) ≤ ↑s.size := by omega
    have H2 := hi
    clear hi
    go_enter Try.func22, Try.ntmps22
    go_wp2_with (go_at_call 26; refine (Try.stringslite_Index_one _ _ _).mono ?_; rintro e w' ⟨rfl, rfl⟩; rw [H2])
    go_quiet (fail)
    go_wp2
    go_ret3
    refine ⟨_, _, _, rfl, ?_, ?_, _, rfl⟩
    · rw [HH.out.1, Lib.extract_data]; simp
    · rw [HH.out.2, Lib.extract_data]; exact List.take_of_length_le (by simp)

set_option maxHeartbeats 800000 in
theorem cut20 (s : ByteArray) (w : World) (hs : s.size ≤ 2097153) :
    Calls Try.prog 20 #[.string s, .string ⟨#[47]⟩] w fun e w' => ∃ (h r : ByteArray) (b : Bool), e = .returned (.tuple #[.string h, .string r, .bool b]) ∧
      h.data.toList = headL s.data.toList ∧ r.data.toList = restL s.data.toList ∧ ∃ n, w' = w.drewN n := by
  go_enter Try.func20, Try.ntmps20
  go_wp2_with (go_at_call 22; refine (cut22 _ _ hs).mono ?_; rintro e w' ⟨h, r, b, rfl, hh, hr, n, rfl⟩; have HH : Hid (h.data.toList = headL s.data.toList ∧ r.data.toList = restL s.data.toList) := ⟨hh, hr⟩; clear hh hr)
  go_ret3
  exact ⟨_, _, _, rfl, HH.out.1, HH.out.2, n, rfl⟩

/-- What tierOf answers. -/
def tierB (c l : ByteArray) : Int := (nNames c.data.toList : Int) - pre (cmpL c.data.toList) (cmpL l.data.toList)

theorem isEmpty_iff (s : ByteArray) : s.toList.isEmpty = true ↔ s.data.toList = [] := by
  rw [Lib.toList_data, List.isEmpty_iff]
theorem isEmpty_no {s : ByteArray} (h : s.toList.isEmpty = false) : s.data.toList ≠ [] := fun e => by
  have := (isEmpty_iff s).2 e
  rw [h] at this
  cases this
theorem tiersB_names (s : ByteArray) : tiersB s = nNames s.data.toList + 1 := by
  unfold tiersB nNames
  by_cases h : s.toList.isEmpty = true
  · rw [if_pos h, if_pos ((isEmpty_iff s).1 h)]; rfl
  · rw [if_neg h, if_neg (fun e => h ((isEmpty_iff s).2 e))]
    unfold Lib.countByte
    omega

/-- A round's relation: what the loop will come to, whatever is left. -/
def Left (R t : Int) (c l : ByteArray) : Prop := t = R + pre (cmpL c.data.toList) (cmpL l.data.toList)

theorem left_bd {R t : Int} {c l : ByteArray} (h : Left R t c l) : R ≤ t := by unfold Left at h; omega

theorem left_end {R t : Int} {c l : ByteArray} (h : Left R t c l) (he : c.toList.isEmpty = true ∨ l.toList.isEmpty = true) : t = R := by
  unfold Left at h
  rw [pre_empty (by rcases he with q | q; exact .inl ((isEmpty_iff c).1 q); exact .inr ((isEmpty_iff l).1 q))] at h
  omega

theorem left_diff {R t : Int} {c l hc hl : ByteArray} (h : Left R t c l) (h0 : c.toList.isEmpty = false) (h1 : l.toList.isEmpty = false)
    (e0 : hc.data.toList = headL c.data.toList) (e1 : hl.data.toList = headL l.data.toList) (hne : (hc.toList == hl.toList) = false) : t = R := by
  unfold Left at h
  rw [pre_diff (isEmpty_no h0) (isEmpty_no h1) (by
    rw [← e0, ← e1, ← Lib.toList_data, ← Lib.toList_data]
    exact fun e => by rw [e] at hne; simp at hne)] at h
  omega

theorem left_same {R t : Int} {c l hc hl rc rl : ByteArray} (h : Left R t c l) (h0 : c.toList.isEmpty = false) (h1 : l.toList.isEmpty = false)
    (e0 : hc.data.toList = headL c.data.toList) (e1 : hl.data.toList = headL l.data.toList) (r0 : rc.data.toList = restL c.data.toList) (r1 : rl.data.toList = restL l.data.toList)
    (heq : (hc.toList == hl.toList) = true) : Left R (t - 1) rc rl ∧ rc.size < c.size ∧ rl.size < l.size := by
  unfold Left at h ⊢
  rw [pre_same (isEmpty_no h0) (isEmpty_no h1) (by
    rw [← e0, ← e1, ← Lib.toList_data, ← Lib.toList_data]
    exact beq_iff_eq.1 heq)] at h
  rw [r0, r1]
  refine ⟨by omega, ?_, ?_⟩
  · have := restL_lt _ (isEmpty_no h0)
    rw [← r0] at this
    simpa using this
  · have := restL_lt _ (isEmpty_no h1)
    rw [← r1] at this
    simpa using this

set_option maxHeartbeats 1600000 in
theorem tierOf_any (c l : ByteArray) (w : World) (hc : c.size ≤ 2097153) (hl : l.size ≤ 2097153) :
    Calls Try.prog 18 #[.string c, .string l] w fun e w' => e = .returned (.int .i64 (tierB c l)) ∧ ∃ n, w' = w.drewN n := by
  have bd := tiersB_bd c
  have tn := tiersB_names c
  have pn := pre_names c.data.toList l.data.toList
  have hR : 0 ≤ tierB c l ∧ tierB c l ≤ 2097155 := by unfold tierB; omega
  have hL : Left (tierB c l) (tiersB c - 1) c l := by unfold Left tierB; omega
  clear tn pn
  go_enter Try.func18, Try.ntmps18
  go_wp2_with (go_at_call 19; refine (tiers_any _ _ hc).mono ?_; rintro e w' ⟨rfl, rfl⟩)
  go_loopw [0, 1, 5] (fun vc vl vt wr => ∃ (c1 l1 : ByteArray) (t : Int) (n : Nat), vc = .string c1 ∧ vl = .string l1 ∧ vt = .int .i64 t ∧ t ≤ 2097155 ∧ c1.size ≤ 2097153 ∧ l1.size ≤ 2097153 ∧ Left (tierB c l) t c1 l1 ∧ wr = w'.drewN n)
    (fun vc _ _ _ => match vc with | .string x => x.size | _ => 0)
  case atStart => exact ⟨c, l, _, 0, rfl, rfl, rfl, by omega, hc, hl, hL, rfl⟩
  case round =>
    obtain ⟨c1, l1, t, n, rfl, rfl, rfl, ht, hc1, hl1, hLr, rfl⟩ := hrel
    have hRt := left_bd hLr
    by_cases k0 : c1.toList.isEmpty = true
    · go_wp2
      go_ret
      exact ⟨ret_int (left_end hLr (.inl k0)), n, rfl⟩
    · by_cases k1 : l1.toList.isEmpty = true
      · simp only [Bool.not_eq_true] at k0
        go_wp2
        go_ret
        exact ⟨ret_int (left_end hLr (.inr k1)), n, rfl⟩
      · simp only [Bool.not_eq_true] at k0 k1
        go_wp2_with fail
        refine (cut20 _ _ hc1).mono ?_
        rintro e w1 ⟨h1, r1, b1, rfl, e1, f1, n1, rfl⟩
        have H1 : Hid (h1.data.toList = headL c1.data.toList ∧ r1.data.toList = restL c1.data.toList) := ⟨e1, f1⟩
        clear e1 f1
        go_wp2_with fail
        refine (cut20 _ _ hl1).mono ?_
        rintro e w2 ⟨h2, r2, b2, rfl, e2, f2, n2, rfl⟩
        have H2 : Hid (h2.data.toList = headL l1.data.toList ∧ r2.data.toList = restL l1.data.toList) := ⟨e2, f2⟩
        clear e2 f2
        by_cases hq : (h1.toList == h2.toList) = true
        · obtain ⟨L', s1, s2⟩ := left_same hLr k0 k1 H1.out.1 H2.out.1 H1.out.2 H2.out.2 hq
          go_wp2
          go_roundw
          case rel => exact ⟨r1, r2, t - 1, _, rfl, rfl, by go_num, by omega, by omega, by omega, L', rfl⟩
          case measure => exact s1
        · simp only [Bool.not_eq_true] at hq
          have hend : Hid (t = tierB c l) := left_diff hLr k0 k1 H1.out.1 H2.out.1 hq
          go_wp2
          go_ret
          exact ⟨ret_int hend.out, _, rfl⟩

set_option maxHeartbeats 400000 in
theorem zztierOf_any (c l : ByteArray) (w : World) (hc : c.size ≤ 2097153) (hl : l.size ≤ 2097153) :
    Calls Try.prog 9 #[.string c, .string l] w fun e w' => e = .returned (.int .i64 (tierB c l)) ∧ ∃ n, w' = w.drewN n := by
  go_enter Try.func9, Try.ntmps9
  go_wp2_with (go_at_call 18; refine (tierOf_any _ _ _ hc hl).mono ?_; rintro e w' ⟨rfl, n, rfl⟩)
  go_ret
  exact ⟨rfl, n, rfl⟩

set_option maxHeartbeats 800000 in
theorem first_any (s : ByteArray) (w : World) (hs : s.size ≤ 2097153) :
    Calls Try.prog 14 #[.string s] w fun e w' => ∃ h : ByteArray, e = .returned (.string h) ∧ h.data.toList = headL s.data.toList ∧ w' = w := by
  go_enter Try.func14, Try.ntmps14
  go_wp2
  go_loop [3] (fun i => ∃ k : Nat, k ≤ s.size ∧ i = .int .i64 k ∧ Hid (∀ j, j < k → s.data.toList[j]? ≠ some 47)) (fun i => s.size - (intOf i).toNat)
  case atStart => exact ⟨0, Nat.zero_le _, rfl, fun j hj => absurd hj (Nat.not_lt_zero _)⟩
  case round =>
    obtain ⟨k, hk, rfl, hno⟩ := hrel
    by_cases hlt : k < s.size
    · have hget : Hid (s.data.toList[k]? = some s[k]) := by
        show s.data.toList[k]? = some s[k]
        rw [List.getElem?_eq_getElem (by simpa using hlt)]; rfl
      go_wp2
      · have hc : ((s[k].toNat : Int) == 47) = true := by assumption
        have hc' : Hid (s[k] = 47) := by
          simp only [beq_iff_eq] at hc
          exact UInt8.toNat_inj.1 (by have : (47 : UInt8).toNat = 47 := rfl; omega)
        go_ret
        refine ⟨_, rfl, ?_, rfl⟩
        rw [(head_at _ k (by rw [hget.out, hc'.out]) hno.out).1, Lib.extract_data]
        simp
      · have hc : ((s[k].toNat : Int) == 47) = false := by assumption
        go_round
        case rel =>
          refine ⟨k + 1, by omega, by go_num, ?_⟩
          intro j hj
          by_cases e : j = k
          · subst e
            rw [hget.out]
            intro e2
            simp only [Option.some.injEq] at e2
            rw [e2] at hc
            exact absurd hc (by decide)
          · exact hno.out j (by omega)
        case measure => simp [intOf]; omega
    · go_wp2
      go_ret
      refine ⟨_, rfl, ?_, rfl⟩
      refine (head_none _ (fun j => ?_)).1.symm
      by_cases hj : j < k
      · exact hno.out j hj
      · rw [List.getElem?_eq_none (by simp; omega)]; simp
end Go.Proofs.Qxb6600934a
