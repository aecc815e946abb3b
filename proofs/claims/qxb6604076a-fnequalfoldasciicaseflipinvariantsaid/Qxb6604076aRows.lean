/-
  No cell of these rows narrows 'for every input' (looked for: loops, veiled, ifaces, maps, wideKeys, modest, calm, conditions, laid).
  DERIVED. THE GIVEN ROWS OF THIS SEAT. 5 by the template 'for every input the law returns true; each argument reads behind the call as it read before'; 0 by the template 'total and deterministic' (their statements: Qxb6604076aTotals.lean).
  GIVEN WITH THE SEED: the statements are not yours to turn. If you find one false, say at which input.
  Laid BY PROGRAM, IN A SANDBOX (cutbox-rows.mjs): the forced cells as the released guide's own fill.sh prints them over the translation 31f8d47f7fe02995… (all of the seat's roots in one cut). By AI agents, Wed Nov 11 2026. No macro, syntax, notation, axiom, sorry.
-/
import Derived.Test.Qxb6604076aChecked
import GoSem.Claim
import GoSem.ClaimJoined
import GoSem.ClaimMapViews
import Derived.JoinedTies
import Derived.KernelRfl
namespace Go.Proofs.Qxb6604076a
/- THE CELL 'sum', in the pinned program and in every row, IS THE sha256 OF THE DUMP (.gsa) THAT Qxb6604076aProg.lean LOADS. Nothing in Lean hashes anything: it is a label: what it is worth is what the hold of that sum in a sandbox is worth. -/
noncomputable def Try.pinned : Pinned := { name := "qxb6604076a", sum := "31f8d47f7fe02995fa6f2cfafb5aab0a908dc9eed9d0892ce13f52b29e50b67d", checked := Try.checked }
namespace Rows
def none {H : Type} : Left H := { results := [], args := [] }

/-- 'zzlaws_account_b1.FnEqualFoldASCIIEquivalence': WHATEVER THE INPUT: true; the input reads as it did. -/
def fnEqualFoldASCIIEquivalenceSpec : ChangeSpec := { name := "fnEqualFoldASCIIEquivalence", fn := fun _ => fun
  | [d1, d2, d3] => { results := [.lit (.bool true)], args := [d1, d2, d3] }
  | _ => none }
def fnEqualFoldASCIIEquivalenceRow : OpenClaim := { program := "qxb6604076a", sum := "31f8d47f7fe02995fa6f2cfafb5aab0a908dc9eed9d0892ce13f52b29e50b67d", func := "example.com/gorse/gorse/zzlaws_account_b1.FnEqualFoldASCIIEquivalence", spec := "fnEqualFoldASCIIEquivalence", apart := false }
def FnEqualFoldASCIIEquivalenceSaid : Prop := fnEqualFoldASCIIEquivalenceRow.holds Try.pinned (OpenSpec.ofChange fnEqualFoldASCIIEquivalenceSpec)

/-- ITS FALSE NEIGHBOUR: 'it returns false'. Refute it at one input. -/
def fnEqualFoldASCIIEquivalenceWrong : ChangeSpec := { name := "fnEqualFoldASCIIEquivalence", fn := fun _ => fun
  | [d1, d2, d3] => { results := [.lit (.bool false)], args := [d1, d2, d3] }
  | _ => none }
def FnEqualFoldASCIIEquivalenceWrongFalsely : Prop := fnEqualFoldASCIIEquivalenceRow.holds Try.pinned (OpenSpec.ofChange fnEqualFoldASCIIEquivalenceWrong)

/-- 'zzlaws_account_b1.FnEqualFoldASCIICaseFlipInvariant': WHATEVER THE INPUT: true; the input reads as it did. -/
def fnEqualFoldASCIICaseFlipInvariantSpec : ChangeSpec := { name := "fnEqualFoldASCIICaseFlipInvariant", fn := fun _ => fun
  | [d1, d2] => { results := [.lit (.bool true)], args := [d1, d2] }
  | _ => none }
def fnEqualFoldASCIICaseFlipInvariantRow : OpenClaim := { program := "qxb6604076a", sum := "31f8d47f7fe02995fa6f2cfafb5aab0a908dc9eed9d0892ce13f52b29e50b67d", func := "example.com/gorse/gorse/zzlaws_account_b1.FnEqualFoldASCIICaseFlipInvariant", spec := "fnEqualFoldASCIICaseFlipInvariant", apart := false }
def FnEqualFoldASCIICaseFlipInvariantSaid : Prop := fnEqualFoldASCIICaseFlipInvariantRow.holds Try.pinned (OpenSpec.ofChange fnEqualFoldASCIICaseFlipInvariantSpec)

/-- ITS FALSE NEIGHBOUR: 'it returns false'. Refute it at one input. -/
def fnEqualFoldASCIICaseFlipInvariantWrong : ChangeSpec := { name := "fnEqualFoldASCIICaseFlipInvariant", fn := fun _ => fun
  | [d1, d2] => { results := [.lit (.bool false)], args := [d1, d2] }
  | _ => none }
def FnEqualFoldASCIICaseFlipInvariantWrongFalsely : Prop := fnEqualFoldASCIICaseFlipInvariantRow.holds Try.pinned (OpenSpec.ofChange fnEqualFoldASCIICaseFlipInvariantWrong)

/-- 'zzlaws_account_b1.FnLowerASCIIMatchesTable': WHATEVER THE INPUT: true; the input reads as it did. -/
def fnLowerASCIIMatchesTableSpec : ChangeSpec := { name := "fnLowerASCIIMatchesTable", fn := fun _ => fun
  | [d] => { results := [.lit (.bool true)], args := [d] }
  | _ => none }
def fnLowerASCIIMatchesTableRow : OpenClaim := { program := "qxb6604076a", sum := "31f8d47f7fe02995fa6f2cfafb5aab0a908dc9eed9d0892ce13f52b29e50b67d", func := "example.com/gorse/gorse/zzlaws_account_b1.FnLowerASCIIMatchesTable", spec := "fnLowerASCIIMatchesTable", apart := false }
def FnLowerASCIIMatchesTableSaid : Prop := fnLowerASCIIMatchesTableRow.holds Try.pinned (OpenSpec.ofChange fnLowerASCIIMatchesTableSpec)

/-- ITS FALSE NEIGHBOUR: 'it returns false'. Refute it at one input. -/
def fnLowerASCIIMatchesTableWrong : ChangeSpec := { name := "fnLowerASCIIMatchesTable", fn := fun _ => fun
  | [d] => { results := [.lit (.bool false)], args := [d] }
  | _ => none }
def FnLowerASCIIMatchesTableWrongFalsely : Prop := fnLowerASCIIMatchesTableRow.holds Try.pinned (OpenSpec.ofChange fnLowerASCIIMatchesTableWrong)

/-- 'zzlaws_account_b1.FnLowerASCIIKernel': WHATEVER THE INPUT: true; the input reads as it did. -/
def fnLowerASCIIKernelSpec : ChangeSpec := { name := "fnLowerASCIIKernel", fn := fun _ => fun
  | [d1, d2] => { results := [.lit (.bool true)], args := [d1, d2] }
  | _ => none }
def fnLowerASCIIKernelRow : OpenClaim := { program := "qxb6604076a", sum := "31f8d47f7fe02995fa6f2cfafb5aab0a908dc9eed9d0892ce13f52b29e50b67d", func := "example.com/gorse/gorse/zzlaws_account_b1.FnLowerASCIIKernel", spec := "fnLowerASCIIKernel", apart := false }
def FnLowerASCIIKernelSaid : Prop := fnLowerASCIIKernelRow.holds Try.pinned (OpenSpec.ofChange fnLowerASCIIKernelSpec)

/-- ITS FALSE NEIGHBOUR: 'it returns false'. Refute it at one input. -/
def fnLowerASCIIKernelWrong : ChangeSpec := { name := "fnLowerASCIIKernel", fn := fun _ => fun
  | [d1, d2] => { results := [.lit (.bool false)], args := [d1, d2] }
  | _ => none }
def FnLowerASCIIKernelWrongFalsely : Prop := fnLowerASCIIKernelRow.holds Try.pinned (OpenSpec.ofChange fnLowerASCIIKernelWrong)

/-- 'zzlaws_account_b1.FnLowerASCIIIdempotentLowersOnlyCapitals': WHATEVER THE INPUT: true; the input reads as it did. -/
def fnLowerASCIIIdempotentLowersOnlyCapitalsSpec : ChangeSpec := { name := "fnLowerASCIIIdempotentLowersOnlyCapitals", fn := fun _ => fun
  | [d] => { results := [.lit (.bool true)], args := [d] }
  | _ => none }
def fnLowerASCIIIdempotentLowersOnlyCapitalsRow : OpenClaim := { program := "qxb6604076a", sum := "31f8d47f7fe02995fa6f2cfafb5aab0a908dc9eed9d0892ce13f52b29e50b67d", func := "example.com/gorse/gorse/zzlaws_account_b1.FnLowerASCIIIdempotentLowersOnlyCapitals", spec := "fnLowerASCIIIdempotentLowersOnlyCapitals", apart := false }
def FnLowerASCIIIdempotentLowersOnlyCapitalsSaid : Prop := fnLowerASCIIIdempotentLowersOnlyCapitalsRow.holds Try.pinned (OpenSpec.ofChange fnLowerASCIIIdempotentLowersOnlyCapitalsSpec)

/-- ITS FALSE NEIGHBOUR: 'it returns false'. Refute it at one input. -/
def fnLowerASCIIIdempotentLowersOnlyCapitalsWrong : ChangeSpec := { name := "fnLowerASCIIIdempotentLowersOnlyCapitals", fn := fun _ => fun
  | [d] => { results := [.lit (.bool false)], args := [d] }
  | _ => none }
def FnLowerASCIIIdempotentLowersOnlyCapitalsWrongFalsely : Prop := fnLowerASCIIIdempotentLowersOnlyCapitalsRow.holds Try.pinned (OpenSpec.ofChange fnLowerASCIIIdempotentLowersOnlyCapitalsWrong)

end Rows
end Go.Proofs.Qxb6604076a
