/-
  THE PROOF OF 'Rows.FnTierOfWithinTiersSaid'. The frame is the guide's shell for this function; the plain law and the walk are this seat's own.
-/
import Derived.Test.Qxb6600934aRows
import Derived.Test.Qxb6600934aCommon
import Derived.Test.Qxb6600934aTier
import Derived.WalkKit
import Derived.ProofKit
import Derived.OpenShut
import Derived.ShutString
namespace Go.Proofs.Qxb6600934a.fnTierOfWithinTiers
open Go.ChangeShapes Go.WideShapes Go.ChangeAt Go.RowKit
open Go.ChangeMaps (open_string shut_string)
set_option linter.unusedVariables false      -- a walk need not use every 'w<i>' (that an integer argument fits its kind)

theorem own : ownKnob Try.prog.godebug = none := by kernel_rfl

/-! ### THE PLAIN LAW: no Go in sight -/
theorem tier_bd (c l : ByteArray) : 0 ≤ tierB c l ∧ tierB c l ≤ tiersB c - 1 := by
  have h1 := tiersB_names c
  have h2 := Pl.pre_names c.data.toList l.data.toList
  unfold tierB
  omega
theorem tier_none (c : ByteArray) : tierB c ⟨#[]⟩ = tiersB c - 1 := by
  have h1 := tiersB_names c
  have h2 : Pl.pre (Pl.cmpL c.data.toList) (Pl.cmpL (⟨#[]⟩ : ByteArray).data.toList) = 0 := Pl.pre_empty (.inr rfl)
  unfold tierB
  omega
theorem tier_diff {c l hc hl : ByteArray} (h0 : c.toList.isEmpty = false) (h1 : l.toList.isEmpty = false) (e0 : hc.data.toList = Pl.headL c.data.toList) (e1 : hl.data.toList = Pl.headL l.data.toList)
    (hne : (hc.toList == hl.toList) = false) : tierB c l = tiersB c - 1 := by
  have h1' := tiersB_names c
  have h2 := left_diff (R := 0) (t := Pl.pre (Pl.cmpL c.data.toList) (Pl.cmpL l.data.toList)) (by unfold Left; omega) h0 h1 e0 e1 hne
  unfold tierB
  omega
theorem zztierOf_none (c : ByteArray) (w : World) (hc : c.size ≤ 2097153) :
    Calls Try.prog 9 #[.string c, .string ⟨#[]⟩] w fun e w' => e = .returned (.int .i64 (tiersB c - 1)) ∧ ∃ n, w' = w.drewN n := by
  rw [← tier_none]
  exact zztierOf_any c ⟨#[]⟩ w hc (Nat.zero_le _)
theorem grown_drewN (w : World) (n : Nat) : Grown w (w.drewN n) := Grown.refl w

/-! ### STEP 1: THE WALK: the Go text returns true. 'Grown w w'': the world has at most new blocks (Derived/RowKit3.lean). Part the cases AHEAD of 'go_enter' where a test parts the walk; take each callee by a contract of your own. -/
theorem walk (a0 : ByteArray) (a1 : ByteArray) (w0 : a0.size ≤ maxLen) (w1 : a1.size ≤ maxLen) (w : World) :
    Calls Try.prog 4 #[.string a0, .string a1] w fun e w' => e = .returned (.bool true) ∧ Grown w w' := by
  have w0' := w0; have w1' := w1
  unfold maxLen at w0' w1'
  have bd0 := tiersB_bd a0
  obtain ⟨tb1, tb2⟩ := tier_bd a0 a1
  by_cases hb : a0.size + a1.size ≤ 1048576
  · have hbt : b2 a0 a1 = true := (b2_true hb).symm
    have hz0 : a0.size ≤ 2097153 := by omega
    have hz1 : a1.size ≤ 2097153 := by omega
    by_cases hc0 : 524288 < a0.size
    · go_enter Try.func4, Try.ntmps4
      go_wp2_with (go_at_call 12; refine (bytes12 _ _ _ w0 w1).mono ?_; rintro e w' ⟨rfl, rfl⟩)
      go_ret
      exact ⟨rfl, Grown.refl _⟩
    by_cases hc1 : 524288 < a1.size
    · go_enter Try.func4, Try.ntmps4
      go_wp2_with (go_at_call 12; refine (bytes12 _ _ _ w0 w1).mono ?_; rintro e w' ⟨rfl, rfl⟩)
      go_ret
      exact ⟨rfl, Grown.refl _⟩
    by_cases c0 : a0.toList.isEmpty = true
    · go_enter Try.func4, Try.ntmps4
      go_wp2_with (first | (go_at_call 12; refine (bytes12 _ _ _ w0 w1).mono ?_; rintro e w' ⟨rfl, rfl⟩) | (go_at_call 13; refine (zztiers_any _ _ hz0).mono ?_; rintro e w' ⟨rfl, rfl⟩))
      refine (zztierOf_any _ _ _ hz0 hz1).mono ?_
      rintro e w2 ⟨rfl, n1, rfl⟩
      go_wp2_with fail
      refine (zztierOf_none _ _ hz0).mono ?_
      rintro e w3 ⟨rfl, n2, rfl⟩
      go_wp2
      go_ret
      exact ⟨rfl, grown_drewN _ _⟩
    by_cases c1 : a1.toList.isEmpty = true
    · simp only [Bool.not_eq_true] at c0
      go_enter Try.func4, Try.ntmps4
      go_wp2_with (first | (go_at_call 12; refine (bytes12 _ _ _ w0 w1).mono ?_; rintro e w' ⟨rfl, rfl⟩) | (go_at_call 13; refine (zztiers_any _ _ hz0).mono ?_; rintro e w' ⟨rfl, rfl⟩))
      refine (zztierOf_any _ _ _ hz0 hz1).mono ?_
      rintro e w2 ⟨rfl, n1, rfl⟩
      go_wp2_with fail
      refine (zztierOf_none _ _ hz0).mono ?_
      rintro e w3 ⟨rfl, n2, rfl⟩
      go_wp2
      go_ret
      exact ⟨rfl, grown_drewN _ _⟩
    simp only [Bool.not_eq_true] at c0 c1
    go_enter Try.func4, Try.ntmps4
    go_wp2_with (first | (go_at_call 12; refine (bytes12 _ _ _ w0 w1).mono ?_; rintro e w' ⟨rfl, rfl⟩) | (go_at_call 13; refine (zztiers_any _ _ hz0).mono ?_; rintro e w' ⟨rfl, rfl⟩))
    refine (zztierOf_any _ _ _ hz0 hz1).mono ?_
    rintro e w2 ⟨rfl, n1, rfl⟩
    go_wp2_with fail
    refine (zztierOf_none _ _ hz0).mono ?_
    rintro e w3 ⟨rfl, n2, rfl⟩
    go_wp2_with fail
    refine (first_any _ _ hz0).mono ?_
    rintro e w4 ⟨h1, rfl, e1, rfl⟩
    have H1 : Hid (h1.data.toList = Pl.headL a0.data.toList) := e1
    clear e1
    go_wp2_with fail
    refine (first_any _ _ hz1).mono ?_
    rintro e w5 ⟨h2, rfl, e2, rfl⟩
    have H2 : Hid (h2.data.toList = Pl.headL a1.data.toList) := e2
    clear e2
    by_cases hq : (h1.toList == h2.toList) = true
    · go_wp2
      go_ret
      exact ⟨rfl, grown_drewN _ _⟩
    · simp only [Bool.not_eq_true] at hq
      have HT : Hid (tierB a0 a1 = tiersB a0 - 1) := tier_diff c0 c1 H1.out H2.out hq
      go_wp2
      go_ret
      exact ⟨ret_bool (by rw [HT.out]; simp), grown_drewN _ _⟩
  · have hbt : b2 a0 a1 = false := (b2_false hb).symm
    go_enter Try.func4, Try.ntmps4
    go_wp2_with (first | (go_at_call 12; refine (bytes12 _ _ _ w0 w1).mono ?_; rintro e w' ⟨rfl, rfl⟩))
    go_ret
    exact ⟨rfl, Grown.refl _⟩

/-! ### THE ROW's STEP: WRITTEN OUT: LEAVE IT -/
set_option maxRecDepth 100000 in
theorem lifted (os : Os) (started : os.Started) (H : Type) (enc : TypeId × Value → H) :
    ReturnsInHanded {} Try.checked os 4 .any (Rows.fnTierOfWithinTiersSpec.pre6 enc Try.prog Try.f4 Rows.fnTierOfWithinTiersRow.domain false) (Rows.fnTierOfWithinTiersSpec.post enc Try.prog Try.f4 false true false false) := by
  refine returnsInHanded_of_change (C := Try.checked) own started (by kernel_rfl) Try.func4
    (ChangeSpec.witness6 (enc := enc) (C := Try.checked) false ⟨#[], #[.string ByteArray.empty, .string ByteArray.empty], []⟩ 8 (by kernel_rfl) (by kernel_rfl) (by kernel_rfl) (by kernel_rfl)) ?_
  intro W base args ds gs before hval0 hW hcnd _
  have hval : ∀ (j : Nat) t v, Try.f4.params[j]? = some t → args[j]? = some v → Value.okWide Try.prog W .any base t v := hval0
  have hW' := hW
  obtain ⟨p, q, hA0, hV, rfl, hfz, hnd⟩ := hW
  have hA : DataW.TrodAll enc Try.prog W 0 (fun _ => true) true Try.f4.params.toList args.toList ds p := hA0
  rw [Try.params4] at hA hval
  obtain ⟨v0, vs0, d0, ds0, p0, q0, hargs, rfl, rfl, h0, r0⟩ := trodAll_cons hA
  obtain ⟨v1, vs1, d1, ds1, p1, q1, rfl, rfl, rfl, h1, r1⟩ := trodAll_cons r0
  obtain ⟨rfl, rfl, rfl⟩ := trodAll_nil r1
  obtain rfl : args = #[v0, v1] := by cases args; simp_all
  obtain ⟨rfl, rfl⟩ := trodVars_none hV
  obtain ⟨a0, rfl, rfl, rfl, w0⟩ := open_string Try.underlying9 (hval 0 9 v0 rfl rfl) h0
  obtain ⟨a1, rfl, rfl, rfl, w1⟩ := open_string Try.underlying9 (hval 1 9 v1 rfl rfl) h1
  clear hA0 hval0
  simp only [List.append_nil] at hW'
  refine (walk a0 a1 w0 w1 W).mono fun e W' ⟨he, hg⟩ => ?_
  subst he
  exact ⟨_, rfl, post_of_same (pa := []) (pv := []) hW' (fun _ _ _ => (trodAll_cons_mk (shut_bool Try.underlying4 _) trodAll_mk0)) (fun sp _ => (trodAll_cons_mk (shut_string Try.underlying9 w0) (trodAll_cons_mk (shut_string Try.underlying9 w1) trodAll_mk0))) (fun _ _ => rfl) rfl
    (hg.frame _) hg.2.1 (ok_one (by kernel_rfl) rfl (okWide_bool_mk Try.underlying4 _))⟩

theorem over : Rows.fnTierOfWithinTiersRow.holds Try.pinned (OpenSpec.ofChange Rows.fnTierOfWithinTiersSpec) :=
  OpenClaim.holds_of_wide 4 Try.f4 rfl rfl rfl rfl rfl rfl rfl ⟨rfl, rfl, rfl, rfl, rfl⟩ rfl rfl rfl rfl rfl (by kernel_rfl) Try.func4 (by kernel_rfl)
    (of_decide_eq_true (by kernel_rfl)) (by unfold Func.isWrapper; first | (rw [if_pos (by decide +kernel)]; kernel_rfl) | (rw [if_neg (by decide +kernel)]; exact ⟨rfl, rfl⟩))
    (fun os started H enc _ => lifted os started H enc)

/-- ████ THE STATEMENT ████ -/
theorem proved : Rows.FnTierOfWithinTiersSaid :=
  over
#print axioms proved
end Go.Proofs.Qxb6600934a.fnTierOfWithinTiers
