/-
  No cell of these rows narrows 'for every input' (looked for: loops, veiled, ifaces, maps, wideKeys, modest, calm, conditions, laid).
  DERIVED. THE GIVEN ROWS OF THIS SEAT. 5 by the template 'for every input the law returns true; each argument reads behind the call as it read before'; 0 by the template 'total and deterministic' (their statements: Qxb6600934aTotals.lean).
  GIVEN WITH THE SEED: the statements are not yours to turn. If you find one false, say at which input.
  Laid BY PROGRAM, IN A SANDBOX (cutbox-rows.mjs): the forced cells as the released guide's own fill.sh prints them over the translation e8e587bcf0f9f2cd… (all of the seat's roots in one cut). By AI agents, Wed Nov 11 2026. No macro, syntax, notation, axiom, sorry.
-/
import Derived.Test.Qxb6600934aChecked
import GoSem.Claim
import GoSem.ClaimJoined
import GoSem.ClaimMapViews
import Derived.JoinedTies
import Derived.KernelRfl
namespace Go.Proofs.Qxb6600934a
/- THE CELL 'sum', in the pinned program and in every row, IS THE sha256 OF THE DUMP (.gsa) THAT Qxb6600934aProg.lean LOADS. Nothing in Lean hashes anything: it is a label: what it is worth is what the hold of that sum in a sandbox is worth. -/
noncomputable def Try.pinned : Pinned := { name := "qxb6600934a", sum := "e8e587bcf0f9f2cdda8ee40a9d92a9c52f21845ddce74f45ba98e06b260329e4", checked := Try.checked }
namespace Rows
def none {H : Type} : Left H := { results := [], args := [] }

/-- 'zzlaws_root_b1.FnTierOfMatchesNameModel': WHATEVER THE INPUT: true; the input reads as it did. -/
def fnTierOfMatchesNameModelSpec : ChangeSpec := { name := "fnTierOfMatchesNameModel", fn := fun _ => fun
  | [d1, d2] => { results := [.lit (.bool true)], args := [d1, d2] }
  | _ => none }
def fnTierOfMatchesNameModelRow : OpenClaim := { program := "qxb6600934a", sum := "e8e587bcf0f9f2cdda8ee40a9d92a9c52f21845ddce74f45ba98e06b260329e4", func := "example.com/pickwise/pickwise/zzlaws_root_b1.FnTierOfMatchesNameModel", spec := "fnTierOfMatchesNameModel", inPlace := ["internal/bytealg.CountString", "internal/bytealg.IndexByteString", "internal/bytealg.IndexString"], named := ["internal/bytealg.MaxLen"], apart := false }
def FnTierOfMatchesNameModelSaid : Prop := fnTierOfMatchesNameModelRow.holds Try.pinned (OpenSpec.ofChange fnTierOfMatchesNameModelSpec)

/-- ITS FALSE NEIGHBOUR: 'it returns false'. Refute it at one input. -/
def fnTierOfMatchesNameModelWrong : ChangeSpec := { name := "fnTierOfMatchesNameModel", fn := fun _ => fun
  | [d1, d2] => { results := [.lit (.bool false)], args := [d1, d2] }
  | _ => none }
def FnTierOfMatchesNameModelWrongFalsely : Prop := fnTierOfMatchesNameModelRow.holds Try.pinned (OpenSpec.ofChange fnTierOfMatchesNameModelWrong)

/-- 'zzlaws_root_b1.FnTierOfWithinTiers': WHATEVER THE INPUT: true; the input reads as it did. -/
def fnTierOfWithinTiersSpec : ChangeSpec := { name := "fnTierOfWithinTiers", fn := fun _ => fun
  | [d1, d2] => { results := [.lit (.bool true)], args := [d1, d2] }
  | _ => none }
def fnTierOfWithinTiersRow : OpenClaim := { program := "qxb6600934a", sum := "e8e587bcf0f9f2cdda8ee40a9d92a9c52f21845ddce74f45ba98e06b260329e4", func := "example.com/pickwise/pickwise/zzlaws_root_b1.FnTierOfWithinTiers", spec := "fnTierOfWithinTiers", inPlace := ["internal/bytealg.CountString", "internal/bytealg.IndexByteString", "internal/bytealg.IndexString"], named := ["internal/bytealg.MaxLen"], apart := false }
def FnTierOfWithinTiersSaid : Prop := fnTierOfWithinTiersRow.holds Try.pinned (OpenSpec.ofChange fnTierOfWithinTiersSpec)

/-- ITS FALSE NEIGHBOUR: 'it returns false'. Refute it at one input. -/
def fnTierOfWithinTiersWrong : ChangeSpec := { name := "fnTierOfWithinTiers", fn := fun _ => fun
  | [d1, d2] => { results := [.lit (.bool false)], args := [d1, d2] }
  | _ => none }
def FnTierOfWithinTiersWrongFalsely : Prop := fnTierOfWithinTiersRow.holds Try.pinned (OpenSpec.ofChange fnTierOfWithinTiersWrong)

/-- 'zzlaws_root_b1.FnTierOfOwnPlaceIsNarrowest': WHATEVER THE INPUT: true; the input reads as it did. -/
def fnTierOfOwnPlaceIsNarrowestSpec : ChangeSpec := { name := "fnTierOfOwnPlaceIsNarrowest", fn := fun _ => fun
  | [d1, d2] => { results := [.lit (.bool true)], args := [d1, d2] }
  | _ => none }
def fnTierOfOwnPlaceIsNarrowestRow : OpenClaim := { program := "qxb6600934a", sum := "e8e587bcf0f9f2cdda8ee40a9d92a9c52f21845ddce74f45ba98e06b260329e4", func := "example.com/pickwise/pickwise/zzlaws_root_b1.FnTierOfOwnPlaceIsNarrowest", spec := "fnTierOfOwnPlaceIsNarrowest", inPlace := ["internal/bytealg.CountString", "internal/bytealg.IndexByteString", "internal/bytealg.IndexString"], named := ["internal/bytealg.MaxLen"], apart := false }
def FnTierOfOwnPlaceIsNarrowestSaid : Prop := fnTierOfOwnPlaceIsNarrowestRow.holds Try.pinned (OpenSpec.ofChange fnTierOfOwnPlaceIsNarrowestSpec)

/-- ITS FALSE NEIGHBOUR: 'it returns false'. Refute it at one input. -/
def fnTierOfOwnPlaceIsNarrowestWrong : ChangeSpec := { name := "fnTierOfOwnPlaceIsNarrowest", fn := fun _ => fun
  | [d1, d2] => { results := [.lit (.bool false)], args := [d1, d2] }
  | _ => none }
def FnTierOfOwnPlaceIsNarrowestWrongFalsely : Prop := fnTierOfOwnPlaceIsNarrowestRow.holds Try.pinned (OpenSpec.ofChange fnTierOfOwnPlaceIsNarrowestWrong)

/-- 'zzlaws_root_b1.FnTiersCountsNames': WHATEVER THE INPUT: true; the input reads as it did. -/
def fnTiersCountsNamesSpec : ChangeSpec := { name := "fnTiersCountsNames", fn := fun _ => fun
  | [d] => { results := [.lit (.bool true)], args := [d] }
  | _ => none }
def fnTiersCountsNamesRow : OpenClaim := { program := "qxb6600934a", sum := "e8e587bcf0f9f2cdda8ee40a9d92a9c52f21845ddce74f45ba98e06b260329e4", func := "example.com/pickwise/pickwise/zzlaws_root_b1.FnTiersCountsNames", spec := "fnTiersCountsNames", inPlace := ["internal/bytealg.CountString", "internal/bytealg.IndexByteString", "internal/bytealg.IndexString"], named := ["internal/bytealg.MaxLen"], apart := false }
def FnTiersCountsNamesSaid : Prop := fnTiersCountsNamesRow.holds Try.pinned (OpenSpec.ofChange fnTiersCountsNamesSpec)

/-- ITS FALSE NEIGHBOUR: 'it returns false'. Refute it at one input. -/
def fnTiersCountsNamesWrong : ChangeSpec := { name := "fnTiersCountsNames", fn := fun _ => fun
  | [d] => { results := [.lit (.bool false)], args := [d] }
  | _ => none }
def FnTiersCountsNamesWrongFalsely : Prop := fnTiersCountsNamesRow.holds Try.pinned (OpenSpec.ofChange fnTiersCountsNamesWrong)

/-- 'zzlaws_root_b1.FnTiersOfJoinAddsUp': WHATEVER THE INPUT: true; the input reads as it did. -/
def fnTiersOfJoinAddsUpSpec : ChangeSpec := { name := "fnTiersOfJoinAddsUp", fn := fun _ => fun
  | [d1, d2] => { results := [.lit (.bool true)], args := [d1, d2] }
  | _ => none }
def fnTiersOfJoinAddsUpRow : OpenClaim := { program := "qxb6600934a", sum := "e8e587bcf0f9f2cdda8ee40a9d92a9c52f21845ddce74f45ba98e06b260329e4", func := "example.com/pickwise/pickwise/zzlaws_root_b1.FnTiersOfJoinAddsUp", spec := "fnTiersOfJoinAddsUp", inPlace := ["internal/bytealg.CountString", "internal/bytealg.IndexByteString", "internal/bytealg.IndexString"], named := ["internal/bytealg.MaxLen"], apart := false }
def FnTiersOfJoinAddsUpSaid : Prop := fnTiersOfJoinAddsUpRow.holds Try.pinned (OpenSpec.ofChange fnTiersOfJoinAddsUpSpec)

/-- ITS FALSE NEIGHBOUR: 'it returns false'. Refute it at one input. -/
def fnTiersOfJoinAddsUpWrong : ChangeSpec := { name := "fnTiersOfJoinAddsUp", fn := fun _ => fun
  | [d1, d2] => { results := [.lit (.bool false)], args := [d1, d2] }
  | _ => none }
def FnTiersOfJoinAddsUpWrongFalsely : Prop := fnTiersOfJoinAddsUpRow.holds Try.pinned (OpenSpec.ofChange fnTiersOfJoinAddsUpWrong)

end Rows
end Go.Proofs.Qxb6600934a
