/-
  zzSameStrings at two rows of the same strings: true.
-/
import Derived.Test.Qxb6601375aModel
namespace Go.Proofs.Qxb6601375a
open Go Go.RowKit
open Pl

theorem row_str {W : World} {base n c : Nat} {a : Option Addr} {ls : List (List UInt8)} (h : W.ownsRow base 9 1 (.slice a n c) n (ls.map str)) {k : Nat} (hk : k < ls.length) (hn : n = ls.length) :
    ∃ g, a = some ⟨g, 0, none⟩ ∧ W.cell? ⟨g, k, none⟩ = some (.string (mk ls[k])) := by
  rcases h.2 with ⟨_, h0⟩ | ⟨g, cap, cur, hv, hbg, hgb, _⟩
  · omega
  · simp only [Value.slice.injEq] at hv
    obtain ⟨rfl, _, rfl⟩ := hv
    refine ⟨g, rfl, ?_⟩
    rw [h.cellAt k (by omega)]
    simp [hk, str]

set_option maxHeartbeats 800000 in
theorem same_any (base1 base2 c1 c2 : Nat) (a1 a2 : Option Addr) (ls : List (List UInt8)) (w : World) (hl : ls.length ≤ 1048576) (h1 : w.ownsRow base1 9 1 (.slice a1 ls.length c1) ls.length (ls.map str)) (h2 : w.ownsRow base2 9 1 (.slice a2 ls.length c2) ls.length (ls.map str)) :
    Calls Try.prog 10 #[.slice a1 ls.length c1, .slice a2 ls.length c2] w fun e w' => e = .returned (.bool true) ∧ ∃ n, w' = w.drewN n := by
  go_enter Try.func10, Try.ntmps10
  go_wp2
  go_loopw [5] (fun i wr => ∃ k n : Nat, k ≤ ls.length ∧ i = .int .i64 k ∧ wr = w.drewN n) (fun i _ => ls.length - (intOf i).toNat)
  case atStart => exact ⟨0, 0, Nat.zero_le _, rfl, rfl⟩
  case round =>
    obtain ⟨k, n, hk, rfl, rfl⟩ := hrel
    by_cases hlt : k < ls.length
    · obtain ⟨g1, rfl, q1⟩ := row_str h1 hlt rfl
      obtain ⟨g2, rfl, q2⟩ := row_str h2 hlt rfl
      have i0 : (k : Int) < (ls.length : Int) := by omega
      generalize mk ls[k] = X at q1 q2
      go_wp2
      go_quiet (fail)
      go_wp2
      go_roundw
      case rel => exact ⟨k + 1, _, by omega, by go_num, rfl⟩
      case measure => simp [intOf]; omega
    · go_wp2
      go_ret
      exact ⟨rfl, _, rfl⟩
end Go.Proofs.Qxb6601375a
