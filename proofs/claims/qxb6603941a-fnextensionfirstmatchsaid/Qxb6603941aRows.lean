/-
  No cell of these rows narrows 'for every input' (looked for: loops, veiled, ifaces, maps, wideKeys, modest, calm, conditions, laid).
  DERIVED. THE GIVEN ROWS OF THIS SEAT. 2 by the template 'for every input the law returns true; each argument reads behind the call as it read before'; 0 by the template 'total and deterministic' (their statements: Qxb6603941aTotals.lean).
  GIVEN WITH THE SEED: the statements are not yours to turn. If you find one false, say at which input.
  Laid BY PROGRAM, IN A SANDBOX (cutbox-rows.mjs): the forced cells as the released guide's own fill.sh prints them over the translation fc57f799cb95dda5… (all of the seat's roots in one cut). By AI agents, Wed Nov 11 2026. No macro, syntax, notation, axiom, sorry.
-/
import Derived.Test.Qxb6603941aChecked
import GoSem.Claim
import GoSem.ClaimJoined
import GoSem.ClaimMapViews
import Derived.JoinedTies
import Derived.KernelRfl
namespace Go.Proofs.Qxb6603941a
/- THE CELL 'sum', in the pinned program and in every row, IS THE sha256 OF THE DUMP (.gsa) THAT Qxb6603941aProg.lean LOADS. Nothing in Lean hashes anything: it is a label: what it is worth is what the hold of that sum in a sandbox is worth. -/
noncomputable def Try.pinned : Pinned := { name := "qxb6603941a", sum := "fc57f799cb95dda515da8473f5b37453dad5b2e88e5ce79694b4785b09683182", checked := Try.checked }
namespace Rows
def none {H : Type} : Left H := { results := [], args := [] }

/-- 'zzlaws_internal_handshake_b1.FnExtensionFirstMatch': WHATEVER THE INPUT: true; the input reads as it did. -/
def fnExtensionFirstMatchSpec : ChangeSpec := { name := "fnExtensionFirstMatch", fn := fun _ => fun
  | [d1, d2] => { results := [.lit (.bool true)], args := [d1, d2] }
  | _ => none }
def fnExtensionFirstMatchRow : OpenClaim := { program := "qxb6603941a", sum := "fc57f799cb95dda515da8473f5b37453dad5b2e88e5ce79694b4785b09683182", func := "example.com/routeback/routeback/zzlaws_internal_handshake_b1.FnExtensionFirstMatch", spec := "fnExtensionFirstMatch", apart := false }
def FnExtensionFirstMatchSaid : Prop := fnExtensionFirstMatchRow.holds Try.pinned (OpenSpec.ofChange fnExtensionFirstMatchSpec)

/-- ITS FALSE NEIGHBOUR: 'it returns false'. Refute it at one input. -/
def fnExtensionFirstMatchWrong : ChangeSpec := { name := "fnExtensionFirstMatch", fn := fun _ => fun
  | [d1, d2] => { results := [.lit (.bool false)], args := [d1, d2] }
  | _ => none }
def FnExtensionFirstMatchWrongFalsely : Prop := fnExtensionFirstMatchRow.holds Try.pinned (OpenSpec.ofChange fnExtensionFirstMatchWrong)

/-- 'zzlaws_internal_handshake_b1.FnReaderVector8RoundTrip': WHATEVER THE INPUT: true; the input reads as it did. -/
def fnReaderVector8RoundTripSpec : ChangeSpec := { name := "fnReaderVector8RoundTrip", fn := fun _ => fun
  | [d1, d2, d3] => { results := [.lit (.bool true)], args := [d1, d2, d3] }
  | _ => none }
def fnReaderVector8RoundTripRow : OpenClaim := { program := "qxb6603941a", sum := "fc57f799cb95dda515da8473f5b37453dad5b2e88e5ce79694b4785b09683182", func := "example.com/routeback/routeback/zzlaws_internal_handshake_b1.FnReaderVector8RoundTrip", spec := "fnReaderVector8RoundTrip", apart := false }
def FnReaderVector8RoundTripSaid : Prop := fnReaderVector8RoundTripRow.holds Try.pinned (OpenSpec.ofChange fnReaderVector8RoundTripSpec)

/-- ITS FALSE NEIGHBOUR: 'it returns false'. Refute it at one input. -/
def fnReaderVector8RoundTripWrong : ChangeSpec := { name := "fnReaderVector8RoundTrip", fn := fun _ => fun
  | [d1, d2, d3] => { results := [.lit (.bool false)], args := [d1, d2, d3] }
  | _ => none }
def FnReaderVector8RoundTripWrongFalsely : Prop := fnReaderVector8RoundTripRow.holds Try.pinned (OpenSpec.ofChange fnReaderVector8RoundTripWrong)

end Rows
end Go.Proofs.Qxb6603941a
