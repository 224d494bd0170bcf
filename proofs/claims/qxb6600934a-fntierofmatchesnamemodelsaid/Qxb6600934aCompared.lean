/-
  zzCompared: how many names take part; and the plain law of the model's loop.
-/
import Derived.Test.Qxb6600934aNames
import Derived.Test.Qxb6600934aTier
namespace Go.Proofs.Qxb6600934a
open Go.RowKit
open Pl

/-- A list of byte arrays read as lists of bytes. -/
def lists (ds : List ByteArray) : List (List UInt8) := ds.map (fun x => x.data.toList)

theorem own_below {w1 w2 : World} {base : Nat} {e : TypeId} {size n : Nat} {v : Value} {xs : List Value} (h : w1.ownsRow base e size v n xs) (hb : Below w1.heap.size w1 w2) : w2.ownsRow base e size v n xs :=
  h.kept (row := none) ⟨hb.os, hb.tape, hb.output, hb.size, fun k hk _ => hb.block k hk⟩ (by
    rcases h' : v.ownBlock with _ | k
    · exact .inl rfl
    · exact .inr (by simp))

theorem row_cell {w : World} {base g cap : Nat} {ds : List ByteArray} (h : w.ownsRow base 9 1 (.slice (some ⟨g, 0, none⟩) ds.length cap) ds.length (ds.map .string)) (j : Nat) (hj : j < ds.length) :
    w.cell? ⟨g, j, none⟩ = some (.string ds[j]) := by
  rw [h.cellAt j (by omega)]
  simp [hj]

set_option maxHeartbeats 400000 in
theorem compared_nil (w : World) : Calls Try.prog 11 #[.slice none 0 0] w fun e w' => e = .returned (.int .i64 0) ∧ w' = w := by
  go_enter Try.func11, Try.ntmps11
  go_wp2
  go_ret
  exact ⟨rfl, rfl⟩

theorem last_lists (ds : List ByteArray) (hd : 0 < ds.length) : (lists ds).getLast? = some ds[ds.length - 1].data.toList := by
  rw [List.getLast?_eq_getElem?]
  unfold lists
  rw [List.length_map, List.getElem?_map, List.getElem?_eq_getElem (by omega)]
  rfl
theorem cmpN_yes (ds : List ByteArray) (hd : 0 < ds.length) (h : ds[ds.length - 1].toList.isEmpty = true) : (cmpN (lists ds)).length = ds.length - 1 := by
  unfold cmpN
  rw [if_pos (by rw [last_lists ds hd, (isEmpty_iff _).1 h])]
  simp [lists]
theorem cmpN_no (ds : List ByteArray) (hd : 0 < ds.length) (h : ds[ds.length - 1].toList.isEmpty = false) : (cmpN (lists ds)).length = ds.length := by
  unfold cmpN
  rw [if_neg (by rw [last_lists ds hd]; simpa using isEmpty_no h)]
  simp [lists]

set_option maxHeartbeats 400000 in
theorem compared_row (w : World) (base g cap : Nat) (ds : List ByteArray) (hd : 0 < ds.length) (hle : ds.length ≤ 2097152) (h : w.ownsRow base 9 1 (.slice (some ⟨g, 0, none⟩) ds.length cap) ds.length (ds.map .string)) :
    Calls Try.prog 11 #[.slice (some ⟨g, 0, none⟩) ds.length cap] w fun e w' => e = .returned (.int .i64 (cmpN (lists ds)).length) ∧ w' = w := by
  have hcell := row_cell h (ds.length - 1) (by omega)
  go_enter Try.func11, Try.ntmps11
  go_wp2
  · have h1 : ds[ds.length - 1].toList.isEmpty = true := by assumption
    go_ret
    exact ⟨ret_int (by rw [cmpN_yes ds hd h1]; omega), rfl⟩
  · have h1 : ds[ds.length - 1].toList.isEmpty = false := by assumption
    go_ret
    exact ⟨ret_int (by rw [cmpN_no ds hd h1]), rfl⟩

/-! ### The model's loop, in plain words -/
theorem pre_step {X Y : List (List UInt8)} {j : Nat} (hx : j < X.length) (hy : j < Y.length) (h : X[j] = Y[j]) : pre (X.drop j) (Y.drop j) = pre (X.drop (j + 1)) (Y.drop (j + 1)) + 1 := by
  rw [List.drop_eq_getElem_cons hx, List.drop_eq_getElem_cons hy, pre, if_pos h]
theorem pre_stop {X Y : List (List UInt8)} {j : Nat} (hx : j < X.length) (hy : j < Y.length) (h : X[j] ≠ Y[j]) : pre (X.drop j) (Y.drop j) = 0 := by
  rw [List.drop_eq_getElem_cons hx, List.drop_eq_getElem_cons hy, pre, if_neg h]
theorem pre_out {X Y : List (List UInt8)} {j : Nat} (h : X.length ≤ j ∨ Y.length ≤ j) : pre (X.drop j) (Y.drop j) = 0 := by
  rcases h with h | h
  · rw [List.drop_of_length_le h]; rfl
  · rw [List.drop_of_length_le h, pre_nil_right]

theorem cmpN_get (n : List (List UInt8)) (j : Nat) (h : j < (cmpN n).length) : ∃ h' : j < n.length, (cmpN n)[j] = n[j] := by
  by_cases hl : n.getLast? = some []
  · have e : cmpN n = n.dropLast := by unfold cmpN; rw [if_pos hl]
    have h2 : j < n.dropLast.length := by rw [← e]; exact h
    refine ⟨by simp at h2; omega, ?_⟩
    simp [e]
  · have e : cmpN n = n := by unfold cmpN; rw [if_neg hl]
    exact ⟨by rw [← e]; exact h, by simp [e]⟩

/-- A round: the two names are alike. -/
theorem round_same {ds es : List ByteArray} {j : Nat} (hx : j < (cmpN (lists ds)).length) (hy : j < (cmpN (lists es)).length) (hd : j < ds.length) (he : j < es.length) (h : (ds[j].toList == es[j].toList) = true) :
    pre ((cmpN (lists ds)).drop j) ((cmpN (lists es)).drop j) = pre ((cmpN (lists ds)).drop (j + 1)) ((cmpN (lists es)).drop (j + 1)) + 1 := by
  obtain ⟨_, e1⟩ := cmpN_get _ j hx
  obtain ⟨_, e2⟩ := cmpN_get _ j hy
  refine pre_step hx hy ?_
  rw [e1, e2]
  have := beq_iff_eq.1 h
  rw [Lib.toList_data, Lib.toList_data] at this
  simpa [lists] using this
theorem round_diff {ds es : List ByteArray} {j : Nat} (hx : j < (cmpN (lists ds)).length) (hy : j < (cmpN (lists es)).length) (hd : j < ds.length) (he : j < es.length) (h : (ds[j].toList == es[j].toList) = false) :
    pre ((cmpN (lists ds)).drop j) ((cmpN (lists es)).drop j) = 0 := by
  obtain ⟨_, e1⟩ := cmpN_get _ j hx
  obtain ⟨_, e2⟩ := cmpN_get _ j hy
  refine pre_stop hx hy ?_
  rw [e1, e2]
  intro e
  have : ds[j].data.toList = es[j].data.toList := by simpa [lists] using e
  rw [Lib.toList_data, Lib.toList_data, this] at h
  simp at h

theorem cmpN_le (n : List (List UInt8)) : (cmpN n).length ≤ n.length := by
  unfold cmpN
  split <;> simp
end Go.Proofs.Qxb6600934a
