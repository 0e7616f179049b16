/-
  No cell of these rows narrows 'for every input' (looked for: loops, veiled, ifaces, maps, wideKeys, modest, calm, conditions, laid).
  DERIVED. THE GIVEN ROWS OF THIS SEAT. 6 by the template 'for every input the law returns true; each argument reads behind the call as it read before'; 0 by the template 'total and deterministic' (their statements: Qxb6001703aTotals.lean).
  GIVEN WITH THE SEED: the statements are not yours to turn. If you find one false, say at which input.
  Laid BY PROGRAM, IN A SANDBOX (cutbox-rows.mjs): the forced cells as the released guide's own fill.sh prints them over the translation fd6269f2273e3348… (all of the seat's roots in one cut). By AI agents, Wed Nov 11 2026. No macro, syntax, notation, axiom, sorry.
-/
import Derived.Test.Qxb6001703aChecked
import GoSem.Claim
import GoSem.ClaimJoined
import GoSem.ClaimMapViews
import Derived.JoinedTies
import Derived.KernelRfl
namespace Go.Proofs.Qxb6001703a
/- THE CELL 'sum', in the pinned program and in every row, IS THE sha256 OF THE DUMP (.gsa) THAT Qxb6001703aProg.lean LOADS. Nothing in Lean hashes anything: it is a label: what it is worth is what the hold of that sum in a sandbox is worth. -/
noncomputable def Try.pinned : Pinned := { name := "qxb6001703a", sum := "fd6269f2273e33486fe5b9e9ac95da8480032508ad5f5de1c3187dd6eee17c90", checked := Try.checked }
namespace Rows
def none {H : Type} : Left H := { results := [], args := [] }

/-- 'zzlaws_engine_b1.FnOrderOfSignedIntsExact': WHATEVER THE INPUT: true; the input reads as it did. -/
def fnOrderOfSignedIntsExactSpec : ChangeSpec := { name := "fnOrderOfSignedIntsExact", fn := fun _ => fun
  | [d1, d2] => { results := [.lit (.bool true)], args := [d1, d2] }
  | _ => none }
def fnOrderOfSignedIntsExactRow : OpenClaim := { program := "qxb6001703a", sum := "fd6269f2273e33486fe5b9e9ac95da8480032508ad5f5de1c3187dd6eee17c90", func := "example.com/gapwise/gapwise/zzlaws_engine_b1.FnOrderOfSignedIntsExact", spec := "fnOrderOfSignedIntsExact", apart := false }
def FnOrderOfSignedIntsExactSaid : Prop := fnOrderOfSignedIntsExactRow.holds Try.pinned (OpenSpec.ofChange fnOrderOfSignedIntsExactSpec)

/-- ITS FALSE NEIGHBOUR: 'it returns false'. Refute it at one input. -/
def fnOrderOfSignedIntsExactWrong : ChangeSpec := { name := "fnOrderOfSignedIntsExact", fn := fun _ => fun
  | [d1, d2] => { results := [.lit (.bool false)], args := [d1, d2] }
  | _ => none }
def FnOrderOfSignedIntsExactWrongFalsely : Prop := fnOrderOfSignedIntsExactRow.holds Try.pinned (OpenSpec.ofChange fnOrderOfSignedIntsExactWrong)

/-- 'zzlaws_engine_b1.FnRowReadComposes': WHATEVER THE INPUT: true; the input reads as it did. -/
def fnRowReadComposesSpec : ChangeSpec := { name := "fnRowReadComposes", fn := fun _ => fun
  | [d1, d2, d3] => { results := [.lit (.bool true)], args := [d1, d2, d3] }
  | _ => none }
def fnRowReadComposesRow : OpenClaim := { program := "qxb6001703a", sum := "fd6269f2273e33486fe5b9e9ac95da8480032508ad5f5de1c3187dd6eee17c90", func := "example.com/gapwise/gapwise/zzlaws_engine_b1.FnRowReadComposes", spec := "fnRowReadComposes", apart := false }
def FnRowReadComposesSaid : Prop := fnRowReadComposesRow.holds Try.pinned (OpenSpec.ofChange fnRowReadComposesSpec)

/-- ITS FALSE NEIGHBOUR: 'it returns false'. Refute it at one input. -/
def fnRowReadComposesWrong : ChangeSpec := { name := "fnRowReadComposes", fn := fun _ => fun
  | [d1, d2, d3] => { results := [.lit (.bool false)], args := [d1, d2, d3] }
  | _ => none }
def FnRowReadComposesWrongFalsely : Prop := fnRowReadComposesRow.holds Try.pinned (OpenSpec.ofChange fnRowReadComposesWrong)

/-- 'zzlaws_engine_b1.FnRowReadWholeSharesElseFresh': WHATEVER THE INPUT: true; the input reads as it did. -/
def fnRowReadWholeSharesElseFreshSpec : ChangeSpec := { name := "fnRowReadWholeSharesElseFresh", fn := fun _ => fun
  | [d1, d2] => { results := [.lit (.bool true)], args := [d1, d2] }
  | _ => none }
def fnRowReadWholeSharesElseFreshRow : OpenClaim := { program := "qxb6001703a", sum := "fd6269f2273e33486fe5b9e9ac95da8480032508ad5f5de1c3187dd6eee17c90", func := "example.com/gapwise/gapwise/zzlaws_engine_b1.FnRowReadWholeSharesElseFresh", spec := "fnRowReadWholeSharesElseFresh", apart := false }
def FnRowReadWholeSharesElseFreshSaid : Prop := fnRowReadWholeSharesElseFreshRow.holds Try.pinned (OpenSpec.ofChange fnRowReadWholeSharesElseFreshSpec)

/-- ITS FALSE NEIGHBOUR: 'it returns false'. Refute it at one input. -/
def fnRowReadWholeSharesElseFreshWrong : ChangeSpec := { name := "fnRowReadWholeSharesElseFresh", fn := fun _ => fun
  | [d1, d2] => { results := [.lit (.bool false)], args := [d1, d2] }
  | _ => none }
def FnRowReadWholeSharesElseFreshWrongFalsely : Prop := fnRowReadWholeSharesElseFreshRow.holds Try.pinned (OpenSpec.ofChange fnRowReadWholeSharesElseFreshWrong)

/-- 'zzlaws_engine_b1.FnTableCloneEqualAndIndependent': WHATEVER THE INPUT: true; the input reads as it did. -/
def fnTableCloneEqualAndIndependentSpec : ChangeSpec := { name := "fnTableCloneEqualAndIndependent", fn := fun _ => fun
  | [d1, d2, d3, d4, d5, d6, d7, d8] => { results := [.lit (.bool true)], args := [d1, d2, d3, d4, d5, d6, d7, d8] }
  | _ => none }
def fnTableCloneEqualAndIndependentRow : OpenClaim := { program := "qxb6001703a", sum := "fd6269f2273e33486fe5b9e9ac95da8480032508ad5f5de1c3187dd6eee17c90", func := "example.com/gapwise/gapwise/zzlaws_engine_b1.FnTableCloneEqualAndIndependent", spec := "fnTableCloneEqualAndIndependent", inPlace := ["slices.overlaps[example.com/gapwise/gapwise/sqlparse.ColumnDef]"], unfollowed := true, recurses := true, apart := false }
def FnTableCloneEqualAndIndependentSaid : Prop := fnTableCloneEqualAndIndependentRow.holds Try.pinned (OpenSpec.ofChange fnTableCloneEqualAndIndependentSpec)

/-- ITS FALSE NEIGHBOUR: 'it returns false'. Refute it at one input. -/
def fnTableCloneEqualAndIndependentWrong : ChangeSpec := { name := "fnTableCloneEqualAndIndependent", fn := fun _ => fun
  | [d1, d2, d3, d4, d5, d6, d7, d8] => { results := [.lit (.bool false)], args := [d1, d2, d3, d4, d5, d6, d7, d8] }
  | _ => none }
def FnTableCloneEqualAndIndependentWrongFalsely : Prop := fnTableCloneEqualAndIndependentRow.holds Try.pinned (OpenSpec.ofChange fnTableCloneEqualAndIndependentWrong)

/-- 'zzlaws_engine_b1.FnInsertColumnKeepsReferences': WHATEVER THE INPUT: true; the input reads as it did. -/
def fnInsertColumnKeepsReferencesSpec : ChangeSpec := { name := "fnInsertColumnKeepsReferences", fn := fun _ => fun
  | [d1, d2, d3, d4, d5, d6, d7, d8] => { results := [.lit (.bool true)], args := [d1, d2, d3, d4, d5, d6, d7, d8] }
  | _ => none }
def fnInsertColumnKeepsReferencesRow : OpenClaim := { program := "qxb6001703a", sum := "fd6269f2273e33486fe5b9e9ac95da8480032508ad5f5de1c3187dd6eee17c90", func := "example.com/gapwise/gapwise/zzlaws_engine_b1.FnInsertColumnKeepsReferences", spec := "fnInsertColumnKeepsReferences", inPlace := ["slices.overlaps[example.com/gapwise/gapwise/sqlparse.ColumnDef]"], unfollowed := true, recurses := true, apart := false }
def FnInsertColumnKeepsReferencesSaid : Prop := fnInsertColumnKeepsReferencesRow.holds Try.pinned (OpenSpec.ofChange fnInsertColumnKeepsReferencesSpec)

/-- ITS FALSE NEIGHBOUR: 'it returns false'. Refute it at one input. -/
def fnInsertColumnKeepsReferencesWrong : ChangeSpec := { name := "fnInsertColumnKeepsReferences", fn := fun _ => fun
  | [d1, d2, d3, d4, d5, d6, d7, d8] => { results := [.lit (.bool false)], args := [d1, d2, d3, d4, d5, d6, d7, d8] }
  | _ => none }
def FnInsertColumnKeepsReferencesWrongFalsely : Prop := fnInsertColumnKeepsReferencesRow.holds Try.pinned (OpenSpec.ofChange fnInsertColumnKeepsReferencesWrong)

/-- 'zzlaws_engine_b1.FnOrderOfStringsMonotone': WHATEVER THE INPUT: true; the input reads as it did. -/
def fnOrderOfStringsMonotoneSpec : ChangeSpec := { name := "fnOrderOfStringsMonotone", fn := fun _ => fun
  | [d1, d2, d3] => { results := [.lit (.bool true)], args := [d1, d2, d3] }
  | _ => none }
def fnOrderOfStringsMonotoneRow : OpenClaim := { program := "qxb6001703a", sum := "fd6269f2273e33486fe5b9e9ac95da8480032508ad5f5de1c3187dd6eee17c90", func := "example.com/gapwise/gapwise/zzlaws_engine_b1.FnOrderOfStringsMonotone", spec := "fnOrderOfStringsMonotone", apart := false }
def FnOrderOfStringsMonotoneSaid : Prop := fnOrderOfStringsMonotoneRow.holds Try.pinned (OpenSpec.ofChange fnOrderOfStringsMonotoneSpec)

/-- ITS FALSE NEIGHBOUR: 'it returns false'. Refute it at one input. -/
def fnOrderOfStringsMonotoneWrong : ChangeSpec := { name := "fnOrderOfStringsMonotone", fn := fun _ => fun
  | [d1, d2, d3] => { results := [.lit (.bool false)], args := [d1, d2, d3] }
  | _ => none }
def FnOrderOfStringsMonotoneWrongFalsely : Prop := fnOrderOfStringsMonotoneRow.holds Try.pinned (OpenSpec.ofChange fnOrderOfStringsMonotoneWrong)

end Rows
end Go.Proofs.Qxb6001703a
