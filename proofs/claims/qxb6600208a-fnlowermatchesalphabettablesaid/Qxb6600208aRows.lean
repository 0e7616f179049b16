/-
  No cell of these rows narrows 'for every input' (looked for: loops, veiled, ifaces, maps, wideKeys, modest, calm, conditions, laid).
  DERIVED. THE GIVEN ROWS OF THIS SEAT. 3 by the template 'for every input the law returns true; each argument reads behind the call as it read before'; 0 by the template 'total and deterministic' (their statements: Qxb6600208aTotals.lean).
  GIVEN WITH THE SEED: the statements are not yours to turn. If you find one false, say at which input.
  Laid BY PROGRAM, IN A SANDBOX (cutbox-rows.mjs): the forced cells as the released guide's own fill.sh prints them over the translation 0965a4518bd5445a… (all of the seat's roots in one cut). By AI agents, Wed Nov 11 2026. No macro, syntax, notation, axiom, sorry.
-/
import Derived.Test.Qxb6600208aChecked
import GoSem.Claim
import GoSem.ClaimJoined
import GoSem.ClaimMapViews
import Derived.JoinedTies
import Derived.KernelRfl
namespace Go.Proofs.Qxb6600208a
/- THE CELL 'sum', in the pinned program and in every row, IS THE sha256 OF THE DUMP (.gsa) THAT Qxb6600208aProg.lean LOADS. Nothing in Lean hashes anything: it is a label: what it is worth is what the hold of that sum in a sandbox is worth. -/
noncomputable def Try.pinned : Pinned := { name := "qxb6600208a", sum := "0965a4518bd5445ac67a8984eac284193bfb7c04ec265b383925b908be78a593", checked := Try.checked }
namespace Rows
def none {H : Type} : Left H := { results := [], args := [] }

/-- 'zzlaws_internal_storage_b1.FnLowerMatchesAlphabetTable': WHATEVER THE INPUT: true; the input reads as it did. -/
def fnLowerMatchesAlphabetTableSpec : ChangeSpec := { name := "fnLowerMatchesAlphabetTable", fn := fun _ => fun
  | [d] => { results := [.lit (.bool true)], args := [d] }
  | _ => none }
def fnLowerMatchesAlphabetTableRow : OpenClaim := { program := "qxb6600208a", sum := "0965a4518bd5445ac67a8984eac284193bfb7c04ec265b383925b908be78a593", func := "example.com/wharfinger/wharfinger/zzlaws_internal_storage_b1.FnLowerMatchesAlphabetTable", spec := "fnLowerMatchesAlphabetTable", apart := false }
def FnLowerMatchesAlphabetTableSaid : Prop := fnLowerMatchesAlphabetTableRow.holds Try.pinned (OpenSpec.ofChange fnLowerMatchesAlphabetTableSpec)

/-- ITS FALSE NEIGHBOUR: 'it returns false'. Refute it at one input. -/
def fnLowerMatchesAlphabetTableWrong : ChangeSpec := { name := "fnLowerMatchesAlphabetTable", fn := fun _ => fun
  | [d] => { results := [.lit (.bool false)], args := [d] }
  | _ => none }
def FnLowerMatchesAlphabetTableWrongFalsely : Prop := fnLowerMatchesAlphabetTableRow.holds Try.pinned (OpenSpec.ofChange fnLowerMatchesAlphabetTableWrong)

/-- 'zzlaws_internal_storage_b1.FnLowerIdempotent': WHATEVER THE INPUT: true; the input reads as it did. -/
def fnLowerIdempotentSpec : ChangeSpec := { name := "fnLowerIdempotent", fn := fun _ => fun
  | [d] => { results := [.lit (.bool true)], args := [d] }
  | _ => none }
def fnLowerIdempotentRow : OpenClaim := { program := "qxb6600208a", sum := "0965a4518bd5445ac67a8984eac284193bfb7c04ec265b383925b908be78a593", func := "example.com/wharfinger/wharfinger/zzlaws_internal_storage_b1.FnLowerIdempotent", spec := "fnLowerIdempotent", apart := false }
def FnLowerIdempotentSaid : Prop := fnLowerIdempotentRow.holds Try.pinned (OpenSpec.ofChange fnLowerIdempotentSpec)

/-- ITS FALSE NEIGHBOUR: 'it returns false'. Refute it at one input. -/
def fnLowerIdempotentWrong : ChangeSpec := { name := "fnLowerIdempotent", fn := fun _ => fun
  | [d] => { results := [.lit (.bool false)], args := [d] }
  | _ => none }
def FnLowerIdempotentWrongFalsely : Prop := fnLowerIdempotentRow.holds Try.pinned (OpenSpec.ofChange fnLowerIdempotentWrong)

/-- 'zzlaws_internal_storage_b1.FnLowerCollidesExactlyOnCasePairs': WHATEVER THE INPUT: true; the input reads as it did. -/
def fnLowerCollidesExactlyOnCasePairsSpec : ChangeSpec := { name := "fnLowerCollidesExactlyOnCasePairs", fn := fun _ => fun
  | [d1, d2] => { results := [.lit (.bool true)], args := [d1, d2] }
  | _ => none }
def fnLowerCollidesExactlyOnCasePairsRow : OpenClaim := { program := "qxb6600208a", sum := "0965a4518bd5445ac67a8984eac284193bfb7c04ec265b383925b908be78a593", func := "example.com/wharfinger/wharfinger/zzlaws_internal_storage_b1.FnLowerCollidesExactlyOnCasePairs", spec := "fnLowerCollidesExactlyOnCasePairs", apart := false }
def FnLowerCollidesExactlyOnCasePairsSaid : Prop := fnLowerCollidesExactlyOnCasePairsRow.holds Try.pinned (OpenSpec.ofChange fnLowerCollidesExactlyOnCasePairsSpec)

/-- ITS FALSE NEIGHBOUR: 'it returns false'. Refute it at one input. -/
def fnLowerCollidesExactlyOnCasePairsWrong : ChangeSpec := { name := "fnLowerCollidesExactlyOnCasePairs", fn := fun _ => fun
  | [d1, d2] => { results := [.lit (.bool false)], args := [d1, d2] }
  | _ => none }
def FnLowerCollidesExactlyOnCasePairsWrongFalsely : Prop := fnLowerCollidesExactlyOnCasePairsRow.holds Try.pinned (OpenSpec.ofChange fnLowerCollidesExactlyOnCasePairsWrong)

end Rows
end Go.Proofs.Qxb6600208a
