/-
  zzNames: what it answers: the pieces of its argument at every '/', in a row of the call's own.
-/
import Derived.Test.Qxb6600934aCommon
import Derived.Test.Qxb6600934aPlain
import Derived.Below
import Derived.Maps.AppendAt
namespace Go.Proofs.Qxb6600934a
open Go.RowKit
open Pl

theorem info9 : (Try.prog.info? 9).map (fun i => (i.zero, i.size, i.bytes)) = some (some (.string ByteArray.empty), 1, 16) := by kernel_rfl

/-- 'out = append(out, y)', out a row of strings of the call's own. -/
theorem append_str {ops : Array Oper} {rest : List Oper} {o : Oper} {a : Act} {Q : Exit → Act → World → Prop} (W : World) (hgd : o.guard = none) (s x : Operand)
    (ho : o.op = .call { callee := .builtin .append, args := #[s, x], argTypes := #[24, 24] }) (base : Nat) (v : Value) (ds : List ByteArray) (hs : a.eval s = v)
    (hown : W.ownsRow base 9 1 v ds.length (ds.map .string)) (y : ByteArray) (hx : a.eval x = .slice (some ⟨W.heap.size, 0, none⟩) 1 1) (hn : ds.length ≤ 2097152) (hbase : base ≤ W.heap.size)
    (h : ∀ g cap w', w'.ownsRow base 9 1 (.slice (some ⟨g, 0, none⟩) (ds.length + 1) cap) (ds.length + 1) ((ds ++ [y]).map .string) → Below base W w' →
      wpList Try.prog ops Q rest (a.put o.dst (.slice (some ⟨g, 0, none⟩) (ds.length + 1) cap)) w') :
    wpList Try.prog ops Q (o :: rest) a (W.alloc (.cells #[.string y] 9)) := by
  obtain ⟨i0, hi, hz0, hz1, hz2⟩ := info_parts info9
  refine wpList_append_own _ hgd s x 24 ho base 9 i0 (.string ByteArray.empty) 1 16 Try.underlying24 hi hz0 hz1 hz2 rfl (by decide) v ds.length (ds.map .string) hs (hown.alloc _) ⟨W.heap.size, 0, none⟩ 1 1 [.string y] hx rfl (cell_one_new _ _ _) ?_ ?_ ?_ ?_ ?_
  · intro u hu; simp at hu; subst hu; rfl
  · unfold maxLen; omega
  · omega
  · simp; omega
  · intro v' w1 hown' hgrow _
    obtain ⟨g3, cap3, rfl⟩ : ∃ g3 cap3, v' = .slice (some ⟨g3, 0, none⟩) (ds.length + 1) cap3 := by
      rcases hown'.2 with ⟨_, h⟩ | ⟨g3, cap3, _, h, _⟩
      · omega
      · exact ⟨g3, cap3, h⟩
    refine h g3 cap3 w1 (by simpa using hown') ?_
    exact Below.grown ((Below.refl _ _).alloc hbase _) hgrow (by simp; omega) (fun k hk => (hown.lt k hk).1)

/-- The loop of zzNames: ds are done, the piece in hand begins at a. -/
def Inv (s : ByteArray) (ds : List ByteArray) (a k : Nat) : Prop :=
  splitL s.data.toList = ds.map (fun x => x.data.toList) ++ consHead (s.extract a k).data.toList (splitL (s.data.toList.drop k))

theorem drop_at (s : ByteArray) (k : Nat) (h : k < s.size) : s.data.toList.drop k = s[k] :: s.data.toList.drop (k + 1) := by
  rw [List.drop_eq_getElem_cons (by simpa using h)]; rfl

theorem inv_start (s : ByteArray) : Inv s [] 0 0 := by
  unfold Inv
  rw [Lib.extract_data]
  simp [consHead_nil]

theorem inv_slash {s : ByteArray} {ds : List ByteArray} {a k : Nat} (h : k < s.size) (hi : Inv s ds a k) (hc : ((s[k].toNat : Int) == 47) = true) : Inv s (ds ++ [s.extract a k]) (k + 1) (k + 1) := by
  have hc' : s[k] = 47 := by
    simp only [beq_iff_eq] at hc
    exact UInt8.toNat_inj.1 (by have : (47 : UInt8).toNat = 47 := rfl; omega)
  unfold Inv at hi ⊢
  rw [hi, drop_at s k h, hc', splitL_slash, Lib.extract_data s (k + 1) (k + 1)]
  rw [Nat.sub_self, List.take_zero, consHead_nil]
  simp [consHead]

theorem inv_other {s : ByteArray} {ds : List ByteArray} {a k : Nat} (h : k < s.size) (hak : a ≤ k) (hi : Inv s ds a k) (hc : ((s[k].toNat : Int) == 47) = false) : Inv s ds a (k + 1) := by
  have hc' : s[k] ≠ 47 := by
    intro e
    rw [e] at hc
    exact absurd hc (by decide)
  have he : (s.extract a (k + 1)).data.toList = (s.extract a k).data.toList ++ [s[k]] := by
    rw [Lib.extract_data, Lib.extract_data, show k + 1 - a = (k - a) + 1 by omega, List.take_add_one, List.getElem?_drop, show a + (k - a) = k by omega]
    have : s.data.toList[k]? = some s[k] := by
      rw [List.getElem?_eq_getElem (by simpa using h)]; rfl
    rw [this]; rfl
  unfold Inv at hi ⊢
  rw [hi, drop_at s k h, splitL_other _ _ hc', consHead_two, he]

theorem inv_end {s : ByteArray} {ds : List ByteArray} {a k : Nat} (h : ¬ k < s.size) (hk : k ≤ s.size) (hi : Inv s ds a k) : splitL s.data.toList = (ds ++ [s.extract a s.size]).map (fun x => x.data.toList) := by
  have e : k = s.size := by omega
  subst e
  unfold Inv at hi
  rw [hi, List.drop_of_length_le (by simp)]
  simp [splitL, consHead]

set_option maxHeartbeats 800000 in
theorem names_any (s : ByteArray) (w : World) (hs : s.size ≤ 1048576) (h0 : s.toList.isEmpty = false) :
    Calls Try.prog 10 #[.string s] w fun e w' => ∃ (ds : List ByteArray) (g cap : Nat), e = .returned (.slice (some ⟨g, 0, none⟩) ds.length cap) ∧
      splitL s.data.toList = ds.map (fun x => x.data.toList) ∧ w'.ownsRow w.heap.size 9 1 (.slice (some ⟨g, 0, none⟩) ds.length cap) ds.length (ds.map .string) ∧ Below w.heap.size w w' := by
  have hmk : ∀ w : World, (Instr.makeSlice 24 (.int .i64 0) (.int .i64 4)).run Try.prog w = .ok (.slice (some ⟨w.heap.size, 0, none⟩) 0 4) (w.alloc (.cells #[.string ByteArray.empty, .string ByteArray.empty, .string ByteArray.empty, .string ByteArray.empty] 9)) := fun _ => by kernel_rfl
  go_enter Try.func10, Try.ntmps10
  go_wp2
  go_loopw [3, 4, 5] (fun o st i wr => ∃ (k a : Nat) (ds : List ByteArray) (g cap : Nat), k ≤ s.size ∧ a ≤ k ∧ ds.length ≤ k ∧ i = .int .i64 k ∧ st = .int .i64 a ∧ o = .slice (some ⟨g, 0, none⟩) ds.length cap ∧
      wr.ownsRow w.heap.size 9 1 (.slice (some ⟨g, 0, none⟩) ds.length cap) ds.length (ds.map .string) ∧ Below w.heap.size w wr ∧ Inv s ds a k)
    (fun _ _ i _ => s.size - (intOf i).toNat)
  case atStart =>
    exact ⟨0, 0, [], w.heap.size, 4, Nat.zero_le _, Nat.le_refl _, Nat.le_refl _, rfl, rfl, rfl, World.ownsRow_made w _ 4 (Nat.le_refl _) (by unfold maxLen; omega) rfl, (Below.refl _ _).alloc (Nat.le_refl _) _, inv_start s⟩
  case round =>
    obtain ⟨k, a, ds, g, cap, hk, hak, hdk, rfl, rfl, rfl, hown, hnx, hinv⟩ := hrel
    have hsz := hnx.size
    by_cases hlt : k < s.size
    · go_wp2_with (first
        | (at_builtin; refine append_str wr rfl _ _ rfl w.heap.size (.slice (some ⟨g, 0, none⟩) ds.length cap) ds rfl hown (s.extract a k) rfl (by omega) hsz ?_; intro g1 cap1 w1 hown1 hbel1))
      · have hc : ((s[k].toNat : Int) == 47) = true := by assumption
        go_roundw
        case rel => exact ⟨k + 1, k + 1, ds ++ [s.extract a k], g1, cap1, by omega, by omega, by simp; omega, by go_num, by go_num, by simp, by simpa using hown1, hnx.trans hbel1, inv_slash hlt hinv hc⟩
        case measure => simp [intOf]; omega
      · have hc : ((s[k].toNat : Int) == 47) = false := by assumption
        go_roundw
        case rel => exact ⟨k + 1, a, ds, g, cap, by omega, by omega, by omega, by go_num, rfl, rfl, hown, hnx, inv_other hlt hak hinv hc⟩
        case measure => simp [intOf]; omega
    · go_wp2_with (first
        | (at_builtin; refine append_str wr rfl _ _ rfl w.heap.size (.slice (some ⟨g, 0, none⟩) ds.length cap) ds rfl hown (s.extract a s.size) rfl (by omega) hsz ?_; intro g1 cap1 w1 hown1 hbel1))
      go_ret
      exact ⟨ds ++ [s.extract a s.size], g1, cap1, by simp, inv_end hlt hk hinv, by simpa using hown1, hnx.trans hbel1⟩

set_option maxHeartbeats 400000 in
theorem names_empty (s : ByteArray) (w : World) (h0 : s.toList.isEmpty = true) :
    Calls Try.prog 10 #[.string s] w fun e w' => e = .returned (.slice none 0 0) ∧ w' = w := by
  go_enter Try.func10, Try.ntmps10
  go_wp2
  go_ret
  exact ⟨rfl, rfl⟩
end Go.Proofs.Qxb6600934a
