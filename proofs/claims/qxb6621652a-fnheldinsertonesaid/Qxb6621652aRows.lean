/-
  No cell of these rows narrows 'for every input' (looked for: loops, veiled, ifaces, maps, wideKeys, modest, calm, conditions, laid).
  DERIVED. THE GIVEN ROWS OF THIS SEAT. 3 by the template 'for every input the law returns true; each argument reads behind the call as it read before'; 0 by the template 'total and deterministic' (their statements: Qxb6621652aTotals.lean).
  GIVEN WITH THE SEED: the statements are not yours to turn. If you find one false, say at which input.
  Laid BY PROGRAM, IN A SANDBOX (cutbox-rows.mjs): the forced cells as the released guide's own fill.sh prints them over the translation 6ec8e7967134ddf9… (all of the seat's roots in one cut). By AI agents, Wed Nov 11 2026. No macro, syntax, notation, axiom, sorry.
-/
import Derived.Test.Qxb6621652aChecked
import GoSem.Claim
import GoSem.ClaimJoined
import GoSem.ClaimMapViews
import Derived.JoinedTies
import Derived.KernelRfl
namespace Go.Proofs.Qxb6621652a
/- THE CELL 'sum', in the pinned program and in every row, IS THE sha256 OF THE DUMP (.gsa) THAT Qxb6621652aProg.lean LOADS. Nothing in Lean hashes anything: it is a label: what it is worth is what the hold of that sum in a sandbox is worth. -/
noncomputable def Try.pinned : Pinned := { name := "qxb6621652a", sum := "6ec8e7967134ddf9f801eeaf49164dfc155d2a6c7c32e47ab59e49a372af4335", checked := Try.checked }
namespace Rows
def none {H : Type} : Left H := { results := [], args := [] }

/-- 'zzlaws_internal_ringfile_b1.FnHeldInsertOne': WHATEVER THE INPUT: true; the input reads as it did. -/
def fnHeldInsertOneSpec : ChangeSpec := { name := "fnHeldInsertOne", fn := fun _ => fun
  | [d1, d2, d3, d4, d5, d6, d7, d8] => { results := [.lit (.bool true)], args := [d1, d2, d3, d4, d5, d6, d7, d8] }
  | _ => none }
def fnHeldInsertOneRow : OpenClaim := { program := "qxb6621652a", sum := "6ec8e7967134ddf9f801eeaf49164dfc155d2a6c7c32e47ab59e49a372af4335", func := "example.com/balanced-hoop/balanced-hoop/zzlaws_internal_ringfile_b1.FnHeldInsertOne", spec := "fnHeldInsertOne", apart := false }
def FnHeldInsertOneSaid : Prop := fnHeldInsertOneRow.holds Try.pinned (OpenSpec.ofChange fnHeldInsertOneSpec)

/-- ITS FALSE NEIGHBOUR: 'it returns false'. Refute it at one input. -/
def fnHeldInsertOneWrong : ChangeSpec := { name := "fnHeldInsertOne", fn := fun _ => fun
  | [d1, d2, d3, d4, d5, d6, d7, d8] => { results := [.lit (.bool false)], args := [d1, d2, d3, d4, d5, d6, d7, d8] }
  | _ => none }
def FnHeldInsertOneWrongFalsely : Prop := fnHeldInsertOneRow.holds Try.pinned (OpenSpec.ofChange fnHeldInsertOneWrong)

/-- 'zzlaws_internal_ringfile_b1.FnHeldSplitAdds': WHATEVER THE INPUT: true; the input reads as it did. -/
def fnHeldSplitAddsSpec : ChangeSpec := { name := "fnHeldSplitAdds", fn := fun _ => fun
  | [d1, d2, d3, d4, d5, d6, d7] => { results := [.lit (.bool true)], args := [d1, d2, d3, d4, d5, d6, d7] }
  | _ => none }
def fnHeldSplitAddsRow : OpenClaim := { program := "qxb6621652a", sum := "6ec8e7967134ddf9f801eeaf49164dfc155d2a6c7c32e47ab59e49a372af4335", func := "example.com/balanced-hoop/balanced-hoop/zzlaws_internal_ringfile_b1.FnHeldSplitAdds", spec := "fnHeldSplitAdds", apart := false }
def FnHeldSplitAddsSaid : Prop := fnHeldSplitAddsRow.holds Try.pinned (OpenSpec.ofChange fnHeldSplitAddsSpec)

/-- ITS FALSE NEIGHBOUR: 'it returns false'. Refute it at one input. -/
def fnHeldSplitAddsWrong : ChangeSpec := { name := "fnHeldSplitAdds", fn := fun _ => fun
  | [d1, d2, d3, d4, d5, d6, d7] => { results := [.lit (.bool false)], args := [d1, d2, d3, d4, d5, d6, d7] }
  | _ => none }
def FnHeldSplitAddsWrongFalsely : Prop := fnHeldSplitAddsRow.holds Try.pinned (OpenSpec.ofChange fnHeldSplitAddsWrong)

/-- 'zzlaws_internal_ringfile_b1.FnHeldDropNode': WHATEVER THE INPUT: true; the input reads as it did. -/
def fnHeldDropNodeSpec : ChangeSpec := { name := "fnHeldDropNode", fn := fun _ => fun
  | [d1, d2, d3, d4, d5, d6, d7] => { results := [.lit (.bool true)], args := [d1, d2, d3, d4, d5, d6, d7] }
  | _ => none }
def fnHeldDropNodeRow : OpenClaim := { program := "qxb6621652a", sum := "6ec8e7967134ddf9f801eeaf49164dfc155d2a6c7c32e47ab59e49a372af4335", func := "example.com/balanced-hoop/balanced-hoop/zzlaws_internal_ringfile_b1.FnHeldDropNode", spec := "fnHeldDropNode", apart := false }
def FnHeldDropNodeSaid : Prop := fnHeldDropNodeRow.holds Try.pinned (OpenSpec.ofChange fnHeldDropNodeSpec)

/-- ITS FALSE NEIGHBOUR: 'it returns false'. Refute it at one input. -/
def fnHeldDropNodeWrong : ChangeSpec := { name := "fnHeldDropNode", fn := fun _ => fun
  | [d1, d2, d3, d4, d5, d6, d7] => { results := [.lit (.bool false)], args := [d1, d2, d3, d4, d5, d6, d7] }
  | _ => none }
def FnHeldDropNodeWrongFalsely : Prop := fnHeldDropNodeRow.holds Try.pinned (OpenSpec.ofChange fnHeldDropNodeWrong)

end Rows
end Go.Proofs.Qxb6621652a
