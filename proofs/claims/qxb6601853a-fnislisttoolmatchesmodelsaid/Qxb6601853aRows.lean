/-
  No cell of these rows narrows 'for every input' (looked for: loops, veiled, ifaces, maps, wideKeys, modest, calm, conditions, laid).
  DERIVED. THE GIVEN ROWS OF THIS SEAT. 5 by the template 'for every input the law returns true; each argument reads behind the call as it read before'; 0 by the template 'total and deterministic' (their statements: Qxb6601853aTotals.lean).
  GIVEN WITH THE SEED: the statements are not yours to turn. If you find one false, say at which input.
  Laid BY PROGRAM, IN A SANDBOX (cutbox-rows.mjs): the forced cells as the released guide's own fill.sh prints them over the translation e367fc6c7b7918e4… (all of the seat's roots in one cut). By AI agents, Wed Nov 11 2026. No macro, syntax, notation, axiom, sorry.
-/
import Derived.Test.Qxb6601853aChecked
import GoSem.Claim
import GoSem.ClaimJoined
import GoSem.ClaimMapViews
import Derived.JoinedTies
import Derived.KernelRfl
namespace Go.Proofs.Qxb6601853a
/- THE CELL 'sum', in the pinned program and in every row, IS THE sha256 OF THE DUMP (.gsa) THAT Qxb6601853aProg.lean LOADS. Nothing in Lean hashes anything: it is a label: what it is worth is what the hold of that sum in a sandbox is worth. -/
noncomputable def Try.pinned : Pinned := { name := "qxb6601853a", sum := "e367fc6c7b7918e49c25a6097e756dace50c01f2be701361639fd016325fe4e0", checked := Try.checked }
namespace Rows
def none {H : Type} : Left H := { results := [], args := [] }

/-- 'zzlaws_naming_b1.FnIsPortableOfConcatenation': WHATEVER THE INPUT: true; the input reads as it did. -/
def fnIsPortableOfConcatenationSpec : ChangeSpec := { name := "fnIsPortableOfConcatenation", fn := fun _ => fun
  | [d1, d2] => { results := [.lit (.bool true)], args := [d1, d2] }
  | _ => none }
def fnIsPortableOfConcatenationRow : OpenClaim := { program := "qxb6601853a", sum := "e367fc6c7b7918e49c25a6097e756dace50c01f2be701361639fd016325fe4e0", func := "example.com/scriptgate/scriptgate/zzlaws_naming_b1.FnIsPortableOfConcatenation", spec := "fnIsPortableOfConcatenation", apart := false }
def FnIsPortableOfConcatenationSaid : Prop := fnIsPortableOfConcatenationRow.holds Try.pinned (OpenSpec.ofChange fnIsPortableOfConcatenationSpec)

/-- ITS FALSE NEIGHBOUR: 'it returns false'. Refute it at one input. -/
def fnIsPortableOfConcatenationWrong : ChangeSpec := { name := "fnIsPortableOfConcatenation", fn := fun _ => fun
  | [d1, d2] => { results := [.lit (.bool false)], args := [d1, d2] }
  | _ => none }
def FnIsPortableOfConcatenationWrongFalsely : Prop := fnIsPortableOfConcatenationRow.holds Try.pinned (OpenSpec.ofChange fnIsPortableOfConcatenationWrong)

/-- 'zzlaws_naming_b1.FnIsPortableIgnoresASCIICase': WHATEVER THE INPUT: true; the input reads as it did. -/
def fnIsPortableIgnoresASCIICaseSpec : ChangeSpec := { name := "fnIsPortableIgnoresASCIICase", fn := fun _ => fun
  | [d] => { results := [.lit (.bool true)], args := [d] }
  | _ => none }
def fnIsPortableIgnoresASCIICaseRow : OpenClaim := { program := "qxb6601853a", sum := "e367fc6c7b7918e49c25a6097e756dace50c01f2be701361639fd016325fe4e0", func := "example.com/scriptgate/scriptgate/zzlaws_naming_b1.FnIsPortableIgnoresASCIICase", spec := "fnIsPortableIgnoresASCIICase", apart := false }
def FnIsPortableIgnoresASCIICaseSaid : Prop := fnIsPortableIgnoresASCIICaseRow.holds Try.pinned (OpenSpec.ofChange fnIsPortableIgnoresASCIICaseSpec)

/-- ITS FALSE NEIGHBOUR: 'it returns false'. Refute it at one input. -/
def fnIsPortableIgnoresASCIICaseWrong : ChangeSpec := { name := "fnIsPortableIgnoresASCIICase", fn := fun _ => fun
  | [d] => { results := [.lit (.bool false)], args := [d] }
  | _ => none }
def FnIsPortableIgnoresASCIICaseWrongFalsely : Prop := fnIsPortableIgnoresASCIICaseRow.holds Try.pinned (OpenSpec.ofChange fnIsPortableIgnoresASCIICaseWrong)

/-- 'zzlaws_naming_b1.FnIsListToolMatchesModel': WHATEVER THE INPUT: true; the input reads as it did. -/
def fnIsListToolMatchesModelSpec : ChangeSpec := { name := "fnIsListToolMatchesModel", fn := fun _ => fun
  | [d] => { results := [.lit (.bool true)], args := [d] }
  | _ => none }
def fnIsListToolMatchesModelRow : OpenClaim := { program := "qxb6601853a", sum := "e367fc6c7b7918e49c25a6097e756dace50c01f2be701361639fd016325fe4e0", func := "example.com/scriptgate/scriptgate/zzlaws_naming_b1.FnIsListToolMatchesModel", spec := "fnIsListToolMatchesModel", inPlace := ["internal/bytealg.IndexByteString", "internal/bytealg.IndexString"], named := ["internal/bytealg.MaxLen"], apart := false }
def FnIsListToolMatchesModelSaid : Prop := fnIsListToolMatchesModelRow.holds Try.pinned (OpenSpec.ofChange fnIsListToolMatchesModelSpec)

/-- ITS FALSE NEIGHBOUR: 'it returns false'. Refute it at one input. -/
def fnIsListToolMatchesModelWrong : ChangeSpec := { name := "fnIsListToolMatchesModel", fn := fun _ => fun
  | [d] => { results := [.lit (.bool false)], args := [d] }
  | _ => none }
def FnIsListToolMatchesModelWrongFalsely : Prop := fnIsListToolMatchesModelRow.holds Try.pinned (OpenSpec.ofChange fnIsListToolMatchesModelWrong)

/-- 'zzlaws_naming_b1.FnIsListToolUnderPrefix': WHATEVER THE INPUT: true; the input reads as it did. -/
def fnIsListToolUnderPrefixSpec : ChangeSpec := { name := "fnIsListToolUnderPrefix", fn := fun _ => fun
  | [d1, d2] => { results := [.lit (.bool true)], args := [d1, d2] }
  | _ => none }
def fnIsListToolUnderPrefixRow : OpenClaim := { program := "qxb6601853a", sum := "e367fc6c7b7918e49c25a6097e756dace50c01f2be701361639fd016325fe4e0", func := "example.com/scriptgate/scriptgate/zzlaws_naming_b1.FnIsListToolUnderPrefix", spec := "fnIsListToolUnderPrefix", inPlace := ["internal/bytealg.IndexByteString", "internal/bytealg.IndexString"], named := ["internal/bytealg.MaxLen"], apart := false }
def FnIsListToolUnderPrefixSaid : Prop := fnIsListToolUnderPrefixRow.holds Try.pinned (OpenSpec.ofChange fnIsListToolUnderPrefixSpec)

/-- ITS FALSE NEIGHBOUR: 'it returns false'. Refute it at one input. -/
def fnIsListToolUnderPrefixWrong : ChangeSpec := { name := "fnIsListToolUnderPrefix", fn := fun _ => fun
  | [d1, d2] => { results := [.lit (.bool false)], args := [d1, d2] }
  | _ => none }
def FnIsListToolUnderPrefixWrongFalsely : Prop := fnIsListToolUnderPrefixRow.holds Try.pinned (OpenSpec.ofChange fnIsListToolUnderPrefixWrong)

/-- 'zzlaws_naming_b1.FnIsListToolPrefixFree': WHATEVER THE INPUT: true; the input reads as it did. -/
def fnIsListToolPrefixFreeSpec : ChangeSpec := { name := "fnIsListToolPrefixFree", fn := fun _ => fun
  | [d1, d2] => { results := [.lit (.bool true)], args := [d1, d2] }
  | _ => none }
def fnIsListToolPrefixFreeRow : OpenClaim := { program := "qxb6601853a", sum := "e367fc6c7b7918e49c25a6097e756dace50c01f2be701361639fd016325fe4e0", func := "example.com/scriptgate/scriptgate/zzlaws_naming_b1.FnIsListToolPrefixFree", spec := "fnIsListToolPrefixFree", inPlace := ["internal/bytealg.IndexByteString", "internal/bytealg.IndexString"], named := ["internal/bytealg.MaxLen"], apart := false }
def FnIsListToolPrefixFreeSaid : Prop := fnIsListToolPrefixFreeRow.holds Try.pinned (OpenSpec.ofChange fnIsListToolPrefixFreeSpec)

/-- ITS FALSE NEIGHBOUR: 'it returns false'. Refute it at one input. -/
def fnIsListToolPrefixFreeWrong : ChangeSpec := { name := "fnIsListToolPrefixFree", fn := fun _ => fun
  | [d1, d2] => { results := [.lit (.bool false)], args := [d1, d2] }
  | _ => none }
def FnIsListToolPrefixFreeWrongFalsely : Prop := fnIsListToolPrefixFreeRow.holds Try.pinned (OpenSpec.ofChange fnIsListToolPrefixFreeWrong)

end Rows
end Go.Proofs.Qxb6601853a
