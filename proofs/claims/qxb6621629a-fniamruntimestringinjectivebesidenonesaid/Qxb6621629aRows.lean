/-
  No cell of these rows narrows 'for every input' (looked for: loops, veiled, ifaces, maps, wideKeys, modest, calm, conditions, laid).
  DERIVED. THE GIVEN ROWS OF THIS SEAT. 1 by the template 'for every input the law returns true; each argument reads behind the call as it read before'; 0 by the template 'total and deterministic' (their statements: Qxb6621629aTotals.lean).
  GIVEN WITH THE SEED: the statements are not yours to turn. If you find one false, say at which input.
  Laid BY PROGRAM, IN A SANDBOX (cutbox-rows.mjs): the forced cells as the released guide's own fill.sh prints them over the translation a77016cacbfb0079… (all of the seat's roots in one cut). By AI agents, Wed Nov 11 2026. No macro, syntax, notation, axiom, sorry.
-/
import Derived.Test.Qxb6621629aChecked
import GoSem.Claim
import GoSem.ClaimJoined
import GoSem.ClaimMapViews
import Derived.JoinedTies
import Derived.KernelRfl
namespace Go.Proofs.Qxb6621629a
/- THE CELL 'sum', in the pinned program and in every row, IS THE sha256 OF THE DUMP (.gsa) THAT Qxb6621629aProg.lean LOADS. Nothing in Lean hashes anything: it is a label: what it is worth is what the hold of that sum in a sandbox is worth. -/
noncomputable def Try.pinned : Pinned := { name := "qxb6621629a", sum := "a77016cacbfb00790739acdd168106c634e1a71f05b1255f7fb64f5f49f781c4", checked := Try.checked }
namespace Rows
def none {H : Type} : Left H := { results := [], args := [] }

/-- 'zzlaws_config_b1.FnIAMRuntimeStringInjectiveBesideNone': WHATEVER THE INPUT: true; the input reads as it did. -/
def fnIAMRuntimeStringInjectiveBesideNoneSpec : ChangeSpec := { name := "fnIAMRuntimeStringInjectiveBesideNone", fn := fun _ => fun
  | [d1, d2] => { results := [.lit (.bool true)], args := [d1, d2] }
  | _ => none }
def fnIAMRuntimeStringInjectiveBesideNoneRow : OpenClaim := { program := "qxb6621629a", sum := "a77016cacbfb00790739acdd168106c634e1a71f05b1255f7fb64f5f49f781c4", func := "example.com/wappen/wappen/zzlaws_config_b1.FnIAMRuntimeStringInjectiveBesideNone", spec := "fnIAMRuntimeStringInjectiveBesideNone", apart := false }
def FnIAMRuntimeStringInjectiveBesideNoneSaid : Prop := fnIAMRuntimeStringInjectiveBesideNoneRow.holds Try.pinned (OpenSpec.ofChange fnIAMRuntimeStringInjectiveBesideNoneSpec)

/-- ITS FALSE NEIGHBOUR: 'it returns false'. Refute it at one input. -/
def fnIAMRuntimeStringInjectiveBesideNoneWrong : ChangeSpec := { name := "fnIAMRuntimeStringInjectiveBesideNone", fn := fun _ => fun
  | [d1, d2] => { results := [.lit (.bool false)], args := [d1, d2] }
  | _ => none }
def FnIAMRuntimeStringInjectiveBesideNoneWrongFalsely : Prop := fnIAMRuntimeStringInjectiveBesideNoneRow.holds Try.pinned (OpenSpec.ofChange fnIAMRuntimeStringInjectiveBesideNoneWrong)

end Rows
end Go.Proofs.Qxb6621629a
