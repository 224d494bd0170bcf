/-
  THE PROOF OF 'Rows.FnTiersOfJoinAddsUpSaid'. The frame is the guide's shell for this function; the plain law and the walk are this seat's own.
-/
import Derived.Test.Qxb6600934aRows
import Derived.Test.Qxb6600934aCommon
import Derived.WalkKit
import Derived.ProofKit
import Derived.OpenShut
import Derived.ShutString
namespace Go.Proofs.Qxb6600934a.fnTiersOfJoinAddsUp
open Go.ChangeShapes Go.WideShapes Go.ChangeAt Go.RowKit
open Go.ChangeMaps (open_string shut_string)
set_option linter.unusedVariables false      -- a walk need not use every 'w<i>' (that an integer argument fits its kind)

theorem own : ownKnob Try.prog.godebug = none := by kernel_rfl

/-! ### THE PLAIN LAW: no Go in sight -/
theorem join_adds (a b : ByteArray) (h0 : a.toList.isEmpty = false) (h1 : b.toList.isEmpty = false) :
    tiersB (a ++ { data := #[47] } ++ b) = tiersB a + tiersB b - 1 := by
  have e : (a ++ { data := #[47] } ++ b : ByteArray).data.toList = a.data.toList ++ 47 :: b.data.toList := by simp
  have e2 : (a ++ { data := #[47] } ++ b : ByteArray).toList.isEmpty = false := by rw [Lib.toList_data, e]; simp
  have c : Lib.countByte (a.data.toList ++ 47 :: b.data.toList) 47 = Lib.countByte a.data.toList 47 + (Lib.countByte b.data.toList 47 + 1) := by
    simp [Lib.countByte, List.count_append]
  unfold tiersB
  rw [if_neg (by rw [e2]; exact Bool.false_ne_true), if_neg (by rw [h0]; exact Bool.false_ne_true), if_neg (by rw [h1]; exact Bool.false_ne_true), e, c]
  omega

/-! ### STEP 1: THE WALK: the Go text returns true. 'Grown w w'': the world has at most new blocks (Derived/RowKit3.lean). Part the cases AHEAD of 'go_enter' where a test parts the walk; take each callee by a contract of your own. -/
theorem walk (a0 : ByteArray) (a1 : ByteArray) (w0 : a0.size ≤ maxLen) (w1 : a1.size ≤ maxLen) (w : World) :
    Calls Try.prog 7 #[.string a0, .string a1] w fun e w' => e = .returned (.bool true) ∧ Grown w w' := by
  have w0' := w0; have w1' := w1
  unfold maxLen at w0' w1'
  have bd0 := tiersB_bd a0; have bd1 := tiersB_bd a1
  by_cases hb : a0.size + a1.size ≤ 1048576
  · have hbt : b2 a0 a1 = true := (b2_true hb).symm
    have hz0 : a0.size ≤ 2097153 := by omega
    have hz1 : a1.size ≤ 2097153 := by omega
    have hz2 : (a0 ++ { data := #[47] } ++ a1 : ByteArray).size ≤ 2097153 := by
      have e : (⟨#[47]⟩ : ByteArray).size = 1 := rfl
      rw [ByteArray.size_append, ByteArray.size_append, e]; omega
    by_cases c0 : a0.toList.isEmpty = true
    · go_enter Try.func7, Try.ntmps7
      go_wp2_with (first | (go_at_call 17; refine (bytes17 _ _ _ w0 w1).mono ?_; rintro e w' ⟨rfl, rfl⟩))
      all_goals (go_ret; exact ⟨rfl, Grown.refl _⟩)
    · by_cases c1 : a1.toList.isEmpty = true
      · simp only [Bool.not_eq_true] at c0
        go_enter Try.func7, Try.ntmps7
        go_wp2_with (first | (go_at_call 17; refine (bytes17 _ _ _ w0 w1).mono ?_; rintro e w' ⟨rfl, rfl⟩))
        all_goals (go_ret; exact ⟨rfl, Grown.refl _⟩)
      · simp only [Bool.not_eq_true] at c0 c1
        have HE : Hid (tiersB (a0 ++ { data := #[47] } ++ a1) = tiersB a0 + tiersB a1 - 1) := join_adds a0 a1 c0 c1
        go_enter Try.func7, Try.ntmps7
        go_wp2_with (first | (go_at_call 17; refine (bytes17 _ _ _ w0 w1).mono ?_; rintro e w' ⟨rfl, rfl⟩) | (go_at_call 13; refine (zztiers_any _ _ ?hsz).mono ?_; (case hsz => assumption); rintro e w' ⟨rfl, rfl⟩))
        all_goals go_ret
        all_goals refine ⟨ret_bool ?_, Grown.refl _⟩
        all_goals first | rfl | (rw [HE.out]; simp)
  · have hbt : b2 a0 a1 = false := (b2_false hb).symm
    go_enter Try.func7, Try.ntmps7
    go_wp2_with (first | (go_at_call 17; refine (bytes17 _ _ _ w0 w1).mono ?_; rintro e w' ⟨rfl, rfl⟩))
    go_ret
    exact ⟨rfl, Grown.refl _⟩

/-! ### THE ROW's STEP: WRITTEN OUT: LEAVE IT -/
set_option maxRecDepth 100000 in
theorem lifted (os : Os) (started : os.Started) (H : Type) (enc : TypeId × Value → H) :
    ReturnsInHanded {} Try.checked os 7 .any (Rows.fnTiersOfJoinAddsUpSpec.pre6 enc Try.prog Try.f7 Rows.fnTiersOfJoinAddsUpRow.domain false) (Rows.fnTiersOfJoinAddsUpSpec.post enc Try.prog Try.f7 false true false false) := by
  refine returnsInHanded_of_change (C := Try.checked) own started (by kernel_rfl) Try.func7
    (ChangeSpec.witness6 (enc := enc) (C := Try.checked) false ⟨#[], #[.string ByteArray.empty, .string ByteArray.empty], []⟩ 8 (by kernel_rfl) (by kernel_rfl) (by kernel_rfl) (by kernel_rfl)) ?_
  intro W base args ds gs before hval0 hW hcnd _
  have hval : ∀ (j : Nat) t v, Try.f7.params[j]? = some t → args[j]? = some v → Value.okWide Try.prog W .any base t v := hval0
  have hW' := hW
  obtain ⟨p, q, hA0, hV, rfl, hfz, hnd⟩ := hW
  have hA : DataW.TrodAll enc Try.prog W 0 (fun _ => true) true Try.f7.params.toList args.toList ds p := hA0
  rw [Try.params7] at hA hval
  obtain ⟨v0, vs0, d0, ds0, p0, q0, hargs, rfl, rfl, h0, r0⟩ := trodAll_cons hA
  obtain ⟨v1, vs1, d1, ds1, p1, q1, rfl, rfl, rfl, h1, r1⟩ := trodAll_cons r0
  obtain ⟨rfl, rfl, rfl⟩ := trodAll_nil r1
  obtain rfl : args = #[v0, v1] := by cases args; simp_all
  obtain ⟨rfl, rfl⟩ := trodVars_none hV
  obtain ⟨a0, rfl, rfl, rfl, w0⟩ := open_string Try.underlying9 (hval 0 9 v0 rfl rfl) h0
  obtain ⟨a1, rfl, rfl, rfl, w1⟩ := open_string Try.underlying9 (hval 1 9 v1 rfl rfl) h1
  clear hA0 hval0
  simp only [List.append_nil] at hW'
  refine (walk a0 a1 w0 w1 W).mono fun e W' ⟨he, hg⟩ => ?_
  subst he
  exact ⟨_, rfl, post_of_same (pa := []) (pv := []) hW' (fun _ _ _ => (trodAll_cons_mk (shut_bool Try.underlying4 _) trodAll_mk0)) (fun sp _ => (trodAll_cons_mk (shut_string Try.underlying9 w0) (trodAll_cons_mk (shut_string Try.underlying9 w1) trodAll_mk0))) (fun _ _ => rfl) rfl
    (hg.frame _) hg.2.1 (ok_one (by kernel_rfl) rfl (okWide_bool_mk Try.underlying4 _))⟩

theorem over : Rows.fnTiersOfJoinAddsUpRow.holds Try.pinned (OpenSpec.ofChange Rows.fnTiersOfJoinAddsUpSpec) :=
  OpenClaim.holds_of_wide 7 Try.f7 rfl rfl rfl rfl rfl rfl rfl ⟨rfl, rfl, rfl, rfl, rfl⟩ rfl rfl rfl rfl rfl (by kernel_rfl) Try.func7 (by kernel_rfl)
    (of_decide_eq_true (by kernel_rfl)) (by unfold Func.isWrapper; first | (rw [if_pos (by decide +kernel)]; kernel_rfl) | (rw [if_neg (by decide +kernel)]; exact ⟨rfl, rfl⟩))
    (fun os started H enc _ => lifted os started H enc)

/-- ████ THE STATEMENT ████ -/
theorem proved : Rows.FnTiersOfJoinAddsUpSaid :=
  over
#print axioms proved
end Go.Proofs.Qxb6600934a.fnTiersOfJoinAddsUp
