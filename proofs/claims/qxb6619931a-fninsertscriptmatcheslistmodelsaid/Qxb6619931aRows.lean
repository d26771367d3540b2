/-
  No cell of these rows narrows 'for every input' (looked for: loops, veiled, ifaces, maps, wideKeys, modest, calm, conditions, laid).
  DERIVED. THE GIVEN ROWS OF THIS SEAT. 3 by the template 'for every input the law returns true; each argument reads behind the call as it read before'; 0 by the template 'total and deterministic' (their statements: Qxb6619931aTotals.lean).
  GIVEN WITH THE SEED: the statements are not yours to turn. If you find one false, say at which input.
  Laid BY PROGRAM, IN A SANDBOX (cutbox-rows.mjs): the forced cells as the released guide's own fill.sh prints them over the translation 759fb36947fab8e8… (all of the seat's roots in one cut). By AI agents, Wed Nov 11 2026. No macro, syntax, notation, axiom, sorry.
-/
import Derived.Test.Qxb6619931aChecked
import GoSem.Claim
import GoSem.ClaimJoined
import GoSem.ClaimMapViews
import Derived.JoinedTies
import Derived.KernelRfl
namespace Go.Proofs.Qxb6619931a
/- THE CELL 'sum', in the pinned program and in every row, IS THE sha256 OF THE DUMP (.gsa) THAT Qxb6619931aProg.lean LOADS. Nothing in Lean hashes anything: it is a label: what it is worth is what the hold of that sum in a sandbox is worth. -/
noncomputable def Try.pinned : Pinned := { name := "qxb6619931a", sum := "759fb36947fab8e831acd1d3257f5c04546a6bfc720d74ef9834945649b78c7f", checked := Try.checked }
namespace Rows
def none {H : Type} : Left H := { results := [], args := [] }

/-- 'zzlaws_internal_yamlsyntax_b1.FnBreakAtIsTheYAMLLineBreakWhateverComesBefore': WHATEVER THE INPUT: true; the input reads as it did. -/
def fnBreakAtIsTheYAMLLineBreakWhateverComesBeforeSpec : ChangeSpec := { name := "fnBreakAtIsTheYAMLLineBreakWhateverComesBefore", fn := fun _ => fun
  | [d1, d2, d3] => { results := [.lit (.bool true)], args := [d1, d2, d3] }
  | _ => none }
def fnBreakAtIsTheYAMLLineBreakWhateverComesBeforeRow : OpenClaim := { program := "qxb6619931a", sum := "759fb36947fab8e831acd1d3257f5c04546a6bfc720d74ef9834945649b78c7f", func := "example.com/oblige/oblige/zzlaws_internal_yamlsyntax_b1.FnBreakAtIsTheYAMLLineBreakWhateverComesBefore", spec := "fnBreakAtIsTheYAMLLineBreakWhateverComesBefore", unfollowed := true, recurses := true, apart := false }
def FnBreakAtIsTheYAMLLineBreakWhateverComesBeforeSaid : Prop := fnBreakAtIsTheYAMLLineBreakWhateverComesBeforeRow.holds Try.pinned (OpenSpec.ofChange fnBreakAtIsTheYAMLLineBreakWhateverComesBeforeSpec)

/-- ITS FALSE NEIGHBOUR: 'it returns false'. Refute it at one input. -/
def fnBreakAtIsTheYAMLLineBreakWhateverComesBeforeWrong : ChangeSpec := { name := "fnBreakAtIsTheYAMLLineBreakWhateverComesBefore", fn := fun _ => fun
  | [d1, d2, d3] => { results := [.lit (.bool false)], args := [d1, d2, d3] }
  | _ => none }
def FnBreakAtIsTheYAMLLineBreakWhateverComesBeforeWrongFalsely : Prop := fnBreakAtIsTheYAMLLineBreakWhateverComesBeforeRow.holds Try.pinned (OpenSpec.ofChange fnBreakAtIsTheYAMLLineBreakWhateverComesBeforeWrong)

/-- 'zzlaws_internal_yamlsyntax_b1.FnStartsPlainIsNsPlainFirstWhateverComesBefore': WHATEVER THE INPUT: true; the input reads as it did. -/
def fnStartsPlainIsNsPlainFirstWhateverComesBeforeSpec : ChangeSpec := { name := "fnStartsPlainIsNsPlainFirstWhateverComesBefore", fn := fun _ => fun
  | [d1, d2, d3, d4] => { results := [.lit (.bool true)], args := [d1, d2, d3, d4] }
  | _ => none }
def fnStartsPlainIsNsPlainFirstWhateverComesBeforeRow : OpenClaim := { program := "qxb6619931a", sum := "759fb36947fab8e831acd1d3257f5c04546a6bfc720d74ef9834945649b78c7f", func := "example.com/oblige/oblige/zzlaws_internal_yamlsyntax_b1.FnStartsPlainIsNsPlainFirstWhateverComesBefore", spec := "fnStartsPlainIsNsPlainFirstWhateverComesBefore", unfollowed := true, recurses := true, apart := false }
def FnStartsPlainIsNsPlainFirstWhateverComesBeforeSaid : Prop := fnStartsPlainIsNsPlainFirstWhateverComesBeforeRow.holds Try.pinned (OpenSpec.ofChange fnStartsPlainIsNsPlainFirstWhateverComesBeforeSpec)

/-- ITS FALSE NEIGHBOUR: 'it returns false'. Refute it at one input. -/
def fnStartsPlainIsNsPlainFirstWhateverComesBeforeWrong : ChangeSpec := { name := "fnStartsPlainIsNsPlainFirstWhateverComesBefore", fn := fun _ => fun
  | [d1, d2, d3, d4] => { results := [.lit (.bool false)], args := [d1, d2, d3, d4] }
  | _ => none }
def FnStartsPlainIsNsPlainFirstWhateverComesBeforeWrongFalsely : Prop := fnStartsPlainIsNsPlainFirstWhateverComesBeforeRow.holds Try.pinned (OpenSpec.ofChange fnStartsPlainIsNsPlainFirstWhateverComesBeforeWrong)

/-- 'zzlaws_internal_yamlsyntax_b1.FnInsertScriptMatchesListModel': WHATEVER THE INPUT: true; the input reads as it did. -/
def fnInsertScriptMatchesListModelSpec : ChangeSpec := { name := "fnInsertScriptMatchesListModel", fn := fun _ => fun
  | [d1, d2, d3, d4, d5, d6, d7, d8, d9] => { results := [.lit (.bool true)], args := [d1, d2, d3, d4, d5, d6, d7, d8, d9] }
  | _ => none }
def fnInsertScriptMatchesListModelRow : OpenClaim := { program := "qxb6619931a", sum := "759fb36947fab8e831acd1d3257f5c04546a6bfc720d74ef9834945649b78c7f", func := "example.com/oblige/oblige/zzlaws_internal_yamlsyntax_b1.FnInsertScriptMatchesListModel", spec := "fnInsertScriptMatchesListModel", apart := false }
def FnInsertScriptMatchesListModelSaid : Prop := fnInsertScriptMatchesListModelRow.holds Try.pinned (OpenSpec.ofChange fnInsertScriptMatchesListModelSpec)

/-- ITS FALSE NEIGHBOUR: 'it returns false'. Refute it at one input. -/
def fnInsertScriptMatchesListModelWrong : ChangeSpec := { name := "fnInsertScriptMatchesListModel", fn := fun _ => fun
  | [d1, d2, d3, d4, d5, d6, d7, d8, d9] => { results := [.lit (.bool false)], args := [d1, d2, d3, d4, d5, d6, d7, d8, d9] }
  | _ => none }
def FnInsertScriptMatchesListModelWrongFalsely : Prop := fnInsertScriptMatchesListModelRow.holds Try.pinned (OpenSpec.ofChange fnInsertScriptMatchesListModelWrong)

end Rows
end Go.Proofs.Qxb6619931a
