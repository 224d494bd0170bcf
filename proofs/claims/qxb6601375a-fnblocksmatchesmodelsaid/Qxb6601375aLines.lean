/-
  strings.Lines and the iterator that it hands back.
-/
import Derived.Test.Qxb6601375aRange
import Derived.Test.Qxb6601375aPlain
import Derived.Test.Qxb6601375aShelf
import Derived.Shelf.Abstract
import Derived.Shelf.RegionOpen
import Derived.WalkKit
import Derived.OwnWalkIn
import Derived.TacticsInMore
import Derived.LoopNIn
import Derived.LoopIn
import Derived.Lib.Strings
namespace Go.Proofs.Qxb6601375a
open Go Go.RowKit Go.Shelf
open Pl

attribute [local go_sem] Oper.semAt_some

abbrev Piece := { x : ByteArray // x.size ≤ 1048576 }

/-- How much the iterator's box still holds. -/
def leftAt (Bs : Nat) (W : World) : Nat := match W.cell? ⟨Bs, 0, none⟩ with | some (.string r) => r.size | _ => 0
theorem leftAt_eq {Bs : Nat} {W : World} {r : ByteArray} (h : Boxed W Bs 9 (.string r)) : leftAt Bs W = r.size := by
  unfold leftAt; rw [h.cell]

/-- What the iterator has come to: the pieces that came, what is left. -/
def Came (s : ByteArray) (pre : List Piece) (r : ByteArray) : Prop :=
  linesL s.data.toList = pre.map (fun x => trim x.1.data.toList) ++ linesL r.data.toList ∧ pre.length + r.size ≤ s.size

theorem came_end {s : ByteArray} {pre : List Piece} {r : ByteArray} (h : Came s pre r) (hr : r.size = 0) : pre.map (fun x => trim x.1.data.toList) = linesL s.data.toList := by
  have e : r.data.toList = [] := List.length_eq_zero_iff.1 (by simpa using hr)
  rw [h.1, e]; simp [linesL]
theorem came_size {s : ByteArray} {pre : List Piece} {r : ByteArray} (h : Came s pre r) : r.size ≤ s.size := by have := h.2; omega
theorem came_len {s : ByteArray} {pre : List Piece} {r : ByteArray} (h : Came s pre r) (hr : ¬ r.size = 0) : pre.length < s.size := by have := h.2; omega
theorem came_miss {s : ByteArray} {pre : List Piece} {r : ByteArray} (h : Came s pre r) (hr : ¬ r.size = 0) (hm : Lib.indexByte r.data.toList 10 = -1) (hx : r.size ≤ 1048576) : Came s (pre ++ [⟨r, hx⟩]) ⟨#[]⟩ := by
  have hne : r.data.toList ≠ [] := fun e => hr (by have := congrArg List.length e; simpa using this)
  refine ⟨?_, ?_⟩
  · rw [h.1, piece_last hne (fun j => Lib.indexByte_none hm j)]
    simp
  · have := h.2
    show (pre ++ [_]).length + 0 ≤ _
    simp; omega
theorem came_hit {s : ByteArray} {pre : List Piece} {r x r' : ByteArray} {i : Nat} (h : Came s pre r) (hi : Lib.indexByte r.data.toList 10 = i) (hx : x.size ≤ 1048576)
    (ex : x.data.toList = r.data.toList.take (i + 1)) (er : r'.data.toList = r.data.toList.drop (i + 1)) : Came s (pre ++ [⟨x, hx⟩]) r' ∧ r'.size < r.size := by
  obtain ⟨h1, h2⟩ := Lib.indexByte_some hi
  have hlt : i < r.size := by
    have := (List.getElem?_eq_some_iff.1 h1).1
    simpa using this
  have hsz : r'.size = r.size - (i + 1) := by
    have := congrArg List.length er
    simpa using this
  refine ⟨⟨?_, ?_⟩, by omega⟩
  · rw [h.1, piece_hit h1 h2, er]
    simp [ex]
  · have := h.2
    simp; omega

theorem wrap_one (i m : Nat) (h : m = i + 1) (hi : i ≤ 1048576) : IntKind.i64.wrap ((i : Int) + 1) = (m : Int) := by
  rw [IntKind.wrap_i64]; omega
theorem byte_ten : ((10 : Int)).toNat.toUInt8 = 10 := rfl

set_option maxRecDepth 100000 in
set_option maxHeartbeats 1000000 in
theorem lines1_in (n : Nat) (hn : 1 ≤ n) (l Bs : Nat) (s : ByteArray) (hs : s.size ≤ 1048576) (J : List Piece → World → Prop)
    (hJs : ∀ pre W v, J pre W → J pre (W.setCell ⟨Bs, 0, none⟩ v)) (hJd : ∀ pre W, J pre W → J pre W.drew)
    (hY : ∀ pre (x : Piece) W1, J pre W1 → pre.length < s.size → YieldAt Fence.wide (n - 1) Try.prog l #[.string x.1] W1 fun e W' => e = .returned (.bool true) ∧ J (pre ++ [x]) W' ∧ W'.heap[Bs]? = W1.heap[Bs]?)
    (W : World) (hB : Boxed W Bs 9 (.string s)) (h0 : J [] W) :
    CallsIn Fence.wide n Try.prog 34 #[.func (.yield l) #[] #[], .pointer (some ⟨Bs, 0, none⟩)] W fun e W' => (∃ v, e = .returned v) ∧ ∃ xs : List Piece, xs.map (fun x => trim x.1.data.toList) = linesL s.data.toList ∧ J xs W' := by
  refine callsIn_of_wp Try.func34 rfl trivial ?_ rfl
  simp only [Try.ntmps34, List.size_toArray, List.length_cons, List.length_nil, Nat.reduceAdd, Nat.reduceSub, Array.replicate_succ, Array.replicate_zero, List.push_toArray, List.append_toArray, List.nil_append, List.cons_append]
  gi_wp2
  gi_loopw [3] (fun _ wr => ∃ (pre : List Piece) (r : ByteArray), Boxed wr Bs 9 (.string r) ∧ Came s pre r ∧ J pre wr) (fun _ wr => leftAt Bs wr)
  case atStart => exact ⟨[], s, hB, ⟨rfl, by simp⟩, h0⟩
  case round =>
    obtain ⟨pre, r, hb, hc, hj⟩ := hrel
    have hcell := hb.cell
    have hfr := hb.frozen
    by_cases hr : r.size = 0
    · gi_wp2
      go_end0
      exact ⟨⟨_, rfl⟩, pre, came_end hc hr, hj⟩
    · have hpos : (0 : Int) < (r.size : Int) := by omega
      have hrs := came_size hc
      have hlen : pre.length < s.size := came_len hc hr
      by_cases hm : Lib.indexByte r.data.toList 10 = -1
      · have hc' := came_miss hc hr hm (by omega)
        obtain ⟨fn, tmps, assign, body, hy, hR⟩ := hY pre ⟨r, by omega⟩ (wr.setCell ⟨Bs, 0, none⟩ (.string ⟨#[]⟩)) (hJs _ _ _ hj) hlen
        have hb' := hb.set (.string ⟨#[]⟩)
        dsimp only at hy
        gi_wp2_with (refine ⟨trivial, ?_⟩; gi_at_call 35; refine (callsIn_wide.2 (Try.strings_IndexByte _ _ _)).mono ?_; rintro e w' ⟨rfl, rfl⟩; rw [byte_ten, hm])
        refine hR.mono ?_
        rintro e W3 ⟨rfl, hJ3, hB3⟩
        have hb3 : Boxed W3 Bs 9 (.string ⟨#[]⟩) := hB3.trans hb'
        have hlr : leftAt Bs w' = r.size := leftAt_eq hb
        gi_wp2
        go_roundw
        case rel => exact ⟨_, _, hb3, hc', hJ3⟩
        case measure => rw [leftAt_eq hb3, hlr]; show 0 < r.size; omega
      · have hge := Lib.indexByte_ge r.data.toList 10
        obtain ⟨i, hi⟩ : ∃ i : Nat, Lib.indexByte r.data.toList 10 = i := ⟨(Lib.indexByte r.data.toList 10).toNat, by omega⟩
        have hlt : i < r.size := by
          have := (List.getElem?_eq_some_iff.1 (Lib.indexByte_some hi).1).1
          simpa using this
        obtain ⟨m, hm1⟩ : ∃ m, Hid (m = i + 1) := ⟨_, rfl⟩
        have hms : m ≤ r.size := by rw [hm1.out]; omega
        have hxs : (r.extract 0 m).size ≤ 1048576 := by rw [ByteArray.size_extract]; omega
        obtain ⟨hc', hlt'⟩ := came_hit (x := r.extract 0 m) (r' := r.extract m r.size) hc hi hxs (by rw [Lib.extract_data, hm1.out]; simp) (by rw [Lib.extract_data, hm1.out]; exact List.take_of_length_le (by simp))
        obtain ⟨fn, tmps, assign, body, hy, hR⟩ := hY pre ⟨r.extract 0 m, hxs⟩ (wr.setCell ⟨Bs, 0, none⟩ (.string (r.extract m r.size))).drew (hJd _ _ (hJs _ _ _ hj)) hlen
        have hb' : Boxed (wr.setCell ⟨Bs, 0, none⟩ (.string (r.extract m r.size))).drew Bs 9 (.string (r.extract m r.size)) := hb.set _
        have hwrap : IntKind.i64.wrap ((i : Int) + 1) = (m : Int) := wrap_one i m hm1.out (by omega)
        dsimp only at hy
        have H2 := hi
        clear hi hge hm
        have hmx : Try.prog.follows .mixedOrders = true := by kernel_rfl
        have c1 : (0 : Int) ≤ (i : Int) := by omega
        have c3 : (0 : Int) ≤ (m : Int) := by omega
        have c4 : (m : Int) ≤ (r.size : Int) := by omega
        gi_wp2_with (refine ⟨trivial, ?_⟩; gi_at_call 35; refine (callsIn_wide.2 (Try.strings_IndexByte _ _ _)).mono ?_; rintro e w' ⟨rfl, rfl⟩; rw [byte_ten, H2])
        gi_region_with_o (fail)
        all_goals
          gi_wp2
          refine hR.mono ?_
          rintro e W3 ⟨rfl, hJ3, hB3⟩
          have hb3 : Boxed W3 Bs 9 (.string (r.extract m r.size)) := hB3.trans hb'
          have hlr : leftAt Bs w' = r.size := leftAt_eq hb
          gi_wp2
          go_roundw
          case rel => exact ⟨_, _, hb3, hc', hJ3⟩
          case measure => rw [leftAt_eq hb3, hlr]; exact hlt'

set_option maxHeartbeats 1000000 in
theorem lines_any (s : ByteArray) (w : World) :
    Calls Try.prog 25 #[.string s] w fun e w' => e = .returned (.func (.func 34) #[] #[.pointer (some ⟨w.heap.size, 0, none⟩)]) ∧ w' = w.alloc (.cells #[.string s] 9) := by
  have hmf : ∀ (fn : Fn) (first cap : Array Value) (w : World), (Instr.makeFunc fn first cap).run Try.prog w = .ok (.func fn first cap) w := fun _ _ _ _ => rfl
  go_enter Try.func25, Try.ntmps25
  go_wp2
  go_ret
  exact ⟨rfl, rfl⟩
end Go.Proofs.Qxb6601375a
