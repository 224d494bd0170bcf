/-
  THE PROOF OF 'Rows.FnTiersCountsNamesSaid'. The frame is the guide's shell for this function; the plain law and the walk are this seat's own.
-/
import Derived.Test.Qxb6600934aRows
import Derived.Test.Qxb6600934aCommon
import Derived.Test.Qxb6600934aPlain
import Derived.Test.Qxb6600934aNames
import Derived.WalkKit
import Derived.ProofKit
import Derived.OpenShut
import Derived.ShutString
import Derived.ChangeOld
import Derived.Below
namespace Go.Proofs.Qxb6600934a.fnTiersCountsNames
open Go.ChangeShapes Go.WideShapes Go.ChangeAt Go.RowKit
open Go.ChangeMaps (open_string shut_string)
set_option linter.unusedVariables false      -- a walk need not use every 'w<i>' (that an integer argument fits its kind)

theorem own : ownKnob Try.prog.godebug = none := by kernel_rfl

/-! ### THE PLAIN LAW: no Go in sight -/
theorem counts (s : ByteArray) (ds : List ByteArray) (h0 : s.toList.isEmpty = false) (h : Pl.splitL s.data.toList = ds.map (fun x => x.data.toList)) : tiersB s = (ds.length : Int) + 1 := by
  have e : ds.length = s.data.toList.count 47 + 1 := by rw [← Pl.splitL_length, h, List.length_map]
  unfold tiersB
  rw [if_neg (by rw [h0]; exact Bool.false_ne_true)]
  unfold Lib.countByte
  omega

/-! ### STEP 1: THE WALK: the Go text returns true. 'Below': nothing that was there has turned. Part the cases AHEAD of 'go_enter' where a test parts the walk; take each callee by a contract of your own. -/
theorem walk (a0 : ByteArray) (w0 : a0.size ≤ maxLen) (w : World) :
    Calls Try.prog 6 #[.string a0] w fun e w' => e = .returned (.bool true) ∧ Below w.heap.size w w' := by
  have w0' := w0
  unfold maxLen at w0'
  have bd0 := tiersB_bd a0
  by_cases hb : a0.size ≤ 1048576
  · have hbt : b1 a0 = true := (b1_true hb).symm
    have hz0 : a0.size ≤ 2097153 := by omega
    by_cases c0 : a0.toList.isEmpty = true
    · have e1 : Hid (tiersB a0 = 1) := by unfold tiersB; rw [if_pos c0]; rfl
      go_enter Try.func6, Try.ntmps6
      go_wp2_with (first | (go_at_call 16; refine (bytes16 _ _ w0).mono ?_; rintro e w' ⟨rfl, rfl⟩) | (go_at_call 13; refine (zztiers_any _ _ hz0).mono ?_; rintro e w' ⟨rfl, rfl⟩) | (go_at_call 10; refine (names_empty _ _ c0).mono ?_; rintro e w' ⟨rfl, rfl⟩))
      go_ret
      exact ⟨ret_bool (by rw [e1.out]; rfl), Below.refl _ _⟩
    · simp only [Bool.not_eq_true] at c0
      go_enter Try.func6, Try.ntmps6
      go_wp2_with (first | (go_at_call 16; refine (bytes16 _ _ w0).mono ?_; rintro e w' ⟨rfl, rfl⟩) | (go_at_call 13; refine (zztiers_any _ _ hz0).mono ?_; rintro e w' ⟨rfl, rfl⟩) | (go_at_call 10; refine (names_any _ _ hb c0).mono ?_; rintro e w1 ⟨ds, g, cap, rfl, hsp, hown, hbel⟩; have HS : Hid (tiersB a0 = (ds.length : Int) + 1) := counts a0 ds c0 hsp; have hle : ds.length ≤ 9223372036854775806 := (by have := HS.out; omega); clear hsp hown))
      go_ret
      exact ⟨ret_bool (by rw [HS.out]; simp), hbel⟩
  · have hbt : b1 a0 = false := (b1_false hb).symm
    go_enter Try.func6, Try.ntmps6
    go_wp2_with (first | (go_at_call 16; refine (bytes16 _ _ w0).mono ?_; rintro e w' ⟨rfl, rfl⟩))
    go_ret
    exact ⟨rfl, Below.refl _ _⟩

/-! ### THE ROW's STEP: WRITTEN OUT: LEAVE IT -/
set_option maxRecDepth 100000 in
theorem lifted (os : Os) (started : os.Started) (H : Type) (enc : TypeId × Value → H) :
    ReturnsInHanded {} Try.checked os 6 .any (Rows.fnTiersCountsNamesSpec.pre6 enc Try.prog Try.f6 Rows.fnTiersCountsNamesRow.domain false) (Rows.fnTiersCountsNamesSpec.post enc Try.prog Try.f6 false true false false) := by
  refine returnsInHanded_of_change (C := Try.checked) own started (by kernel_rfl) Try.func6
    (ChangeSpec.witness6 (enc := enc) (C := Try.checked) false ⟨#[], #[.string ByteArray.empty], []⟩ 8 (by kernel_rfl) (by kernel_rfl) (by kernel_rfl) (by kernel_rfl)) ?_
  intro W base args ds gs before hval0 hW hcnd _
  have hval : ∀ (j : Nat) t v, Try.f6.params[j]? = some t → args[j]? = some v → Value.okWide Try.prog W .any base t v := hval0
  have hW' := hW
  obtain ⟨p, q, hA0, hV, rfl, hfz, hnd⟩ := hW
  have hA : DataW.TrodAll enc Try.prog W 0 (fun _ => true) true Try.f6.params.toList args.toList ds p := hA0
  rw [Try.params6] at hA hval
  obtain ⟨v0, vs0, d0, ds0, p0, q0, hargs, rfl, rfl, h0, r0⟩ := trodAll_cons hA
  obtain ⟨rfl, rfl, rfl⟩ := trodAll_nil r0
  obtain rfl : args = #[v0] := by cases args; simp_all
  obtain ⟨rfl, rfl⟩ := trodVars_none hV
  obtain ⟨a0, rfl, rfl, rfl, w0⟩ := open_string Try.underlying9 (hval 0 9 v0 rfl rfl) h0
  clear hA0 hval0
  simp only [List.append_nil] at hW'
  refine (walk a0 w0 W).mono fun e W' ⟨he, hg⟩ => ?_
  subst he
  exact ⟨_, rfl, _, _, _, [], _, [], hW', trodAll_mk1 (shut_bool Try.underlying4 _), (trodAll_cons_mk (shut_string Try.underlying9 w0) trodAll_mk0), rfl, hg.frame _, fun h => by cases h⟩

theorem over : Rows.fnTiersCountsNamesRow.holds Try.pinned (OpenSpec.ofChange Rows.fnTiersCountsNamesSpec) :=
  OpenClaim.holds_of_wide 6 Try.f6 rfl rfl rfl rfl rfl rfl rfl ⟨rfl, rfl, rfl, rfl, rfl⟩ rfl rfl rfl rfl rfl (by kernel_rfl) Try.func6 (by kernel_rfl)
    (of_decide_eq_true (by kernel_rfl)) (by unfold Func.isWrapper; first | (rw [if_pos (by decide +kernel)]; kernel_rfl) | (rw [if_neg (by decide +kernel)]; exact ⟨rfl, rfl⟩))
    (fun os started H enc _ => lifted os started H enc)

/-- ████ THE STATEMENT ████ -/
theorem proved : Rows.FnTiersCountsNamesSaid :=
  over
#print axioms proved
end Go.Proofs.Qxb6600934a.fnTiersCountsNames
