/-
  No cell of these rows narrows 'for every input' (looked for: loops, veiled, ifaces, maps, wideKeys, modest, calm, conditions, laid).
  DERIVED. THE GIVEN ROWS OF THIS SEAT. 3 by the template 'for every input the law returns true; each argument reads behind the call as it read before'; 0 by the template 'total and deterministic' (their statements: Qxb6603915aTotals.lean).
  GIVEN WITH THE SEED: the statements are not yours to turn. If you find one false, say at which input.
  Laid BY PROGRAM, IN A SANDBOX (cutbox-rows.mjs): the forced cells as the released guide's own fill.sh prints them over the translation 539b694c4b3a480b… (all of the seat's roots in one cut). By AI agents, Wed Nov 11 2026. No macro, syntax, notation, axiom, sorry.
-/
import Derived.Test.Qxb6603915aChecked
import GoSem.Claim
import GoSem.ClaimJoined
import GoSem.ClaimMapViews
import Derived.JoinedTies
import Derived.KernelRfl
namespace Go.Proofs.Qxb6603915a
/- THE CELL 'sum', in the pinned program and in every row, IS THE sha256 OF THE DUMP (.gsa) THAT Qxb6603915aProg.lean LOADS. Nothing in Lean hashes anything: it is a label: what it is worth is what the hold of that sum in a sandbox is worth. -/
noncomputable def Try.pinned : Pinned := { name := "qxb6603915a", sum := "539b694c4b3a480b91cd77f8f0944473a28e5c8489025e033cda4a478f8f480e", checked := Try.checked }
namespace Rows
def none {H : Type} : Left H := { results := [], args := [] }

/-- 'zzlaws_internal_formats_b1.FnDecimalPositionalSum': WHATEVER THE INPUT: true; the input reads as it did. -/
def fnDecimalPositionalSumSpec : ChangeSpec := { name := "fnDecimalPositionalSum", fn := fun _ => fun
  | [d] => { results := [.lit (.bool true)], args := [d] }
  | _ => none }
def fnDecimalPositionalSumRow : OpenClaim := { program := "qxb6603915a", sum := "539b694c4b3a480b91cd77f8f0944473a28e5c8489025e033cda4a478f8f480e", func := "example.com/fixity/fixity/zzlaws_internal_formats_b1.FnDecimalPositionalSum", spec := "fnDecimalPositionalSum", apart := false }
def FnDecimalPositionalSumSaid : Prop := fnDecimalPositionalSumRow.holds Try.pinned (OpenSpec.ofChange fnDecimalPositionalSumSpec)

/-- ITS FALSE NEIGHBOUR: 'it returns false'. Refute it at one input. -/
def fnDecimalPositionalSumWrong : ChangeSpec := { name := "fnDecimalPositionalSum", fn := fun _ => fun
  | [d] => { results := [.lit (.bool false)], args := [d] }
  | _ => none }
def FnDecimalPositionalSumWrongFalsely : Prop := fnDecimalPositionalSumRow.holds Try.pinned (OpenSpec.ofChange fnDecimalPositionalSumWrong)

/-- 'zzlaws_internal_formats_b1.FnReadOffsetTable': WHATEVER THE INPUT: true; the input reads as it did. -/
def fnReadOffsetTableSpec : ChangeSpec := { name := "fnReadOffsetTable", fn := fun _ => fun
  | [d] => { results := [.lit (.bool true)], args := [d] }
  | _ => none }
def fnReadOffsetTableRow : OpenClaim := { program := "qxb6603915a", sum := "539b694c4b3a480b91cd77f8f0944473a28e5c8489025e033cda4a478f8f480e", func := "example.com/fixity/fixity/zzlaws_internal_formats_b1.FnReadOffsetTable", spec := "fnReadOffsetTable", apart := false }
def FnReadOffsetTableSaid : Prop := fnReadOffsetTableRow.holds Try.pinned (OpenSpec.ofChange fnReadOffsetTableSpec)

/-- ITS FALSE NEIGHBOUR: 'it returns false'. Refute it at one input. -/
def fnReadOffsetTableWrong : ChangeSpec := { name := "fnReadOffsetTable", fn := fun _ => fun
  | [d] => { results := [.lit (.bool false)], args := [d] }
  | _ => none }
def FnReadOffsetTableWrongFalsely : Prop := fnReadOffsetTableRow.holds Try.pinned (OpenSpec.ofChange fnReadOffsetTableWrong)

/-- 'zzlaws_internal_formats_b1.FnReadOffsetRoundTrip': WHATEVER THE INPUT: true; the input reads as it did. -/
def fnReadOffsetRoundTripSpec : ChangeSpec := { name := "fnReadOffsetRoundTrip", fn := fun _ => fun
  | [d] => { results := [.lit (.bool true)], args := [d] }
  | _ => none }
def fnReadOffsetRoundTripRow : OpenClaim := { program := "qxb6603915a", sum := "539b694c4b3a480b91cd77f8f0944473a28e5c8489025e033cda4a478f8f480e", func := "example.com/fixity/fixity/zzlaws_internal_formats_b1.FnReadOffsetRoundTrip", spec := "fnReadOffsetRoundTrip", apart := false }
def FnReadOffsetRoundTripSaid : Prop := fnReadOffsetRoundTripRow.holds Try.pinned (OpenSpec.ofChange fnReadOffsetRoundTripSpec)

/-- ITS FALSE NEIGHBOUR: 'it returns false'. Refute it at one input. -/
def fnReadOffsetRoundTripWrong : ChangeSpec := { name := "fnReadOffsetRoundTrip", fn := fun _ => fun
  | [d] => { results := [.lit (.bool false)], args := [d] }
  | _ => none }
def FnReadOffsetRoundTripWrongFalsely : Prop := fnReadOffsetRoundTripRow.holds Try.pinned (OpenSpec.ofChange fnReadOffsetRoundTripWrong)

end Rows
end Go.Proofs.Qxb6603915a
