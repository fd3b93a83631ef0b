/-
  No cell of these rows narrows 'for every input' (looked for: loops, veiled, ifaces, maps, wideKeys, modest, calm, conditions, laid).
  DERIVED. THE GIVEN ROWS OF THIS SEAT. 3 by the template 'for every input the law returns true; each argument reads behind the call as it read before'; 0 by the template 'total and deterministic' (their statements: Qxb6606447aTotals.lean).
  GIVEN WITH THE SEED: the statements are not yours to turn. If you find one false, say at which input.
  Laid BY PROGRAM, IN A SANDBOX (cutbox-rows.mjs): the forced cells as the released guide's own fill.sh prints them over the translation 001374293566f09a… (all of the seat's roots in one cut). By AI agents, Wed Nov 11 2026. No macro, syntax, notation, axiom, sorry.
-/
import Derived.Test.Qxb6606447aChecked
import GoSem.Claim
import GoSem.ClaimJoined
import GoSem.ClaimMapViews
import Derived.JoinedTies
import Derived.KernelRfl
namespace Go.Proofs.Qxb6606447a
/- THE CELL 'sum', in the pinned program and in every row, IS THE sha256 OF THE DUMP (.gsa) THAT Qxb6606447aProg.lean LOADS. Nothing in Lean hashes anything: it is a label: what it is worth is what the hold of that sum in a sandbox is worth. -/
noncomputable def Try.pinned : Pinned := { name := "qxb6606447a", sum := "001374293566f09a108b8ce7c16b7e9acdbdacaf54faf97d4fbd2a8c1ee5133f", checked := Try.checked }
namespace Rows
def none {H : Type} : Left H := { results := [], args := [] }

/-- 'zzlaws_internal_playbook_b1.FnPlaybookContinuesMatchesModel': WHATEVER THE INPUT: true; the input reads as it did. -/
def fnPlaybookContinuesMatchesModelSpec : ChangeSpec := { name := "fnPlaybookContinuesMatchesModel", fn := fun _ => fun
  | [d1, d2, d3, d4, d5, d6, d7, d8, d9] => { results := [.lit (.bool true)], args := [d1, d2, d3, d4, d5, d6, d7, d8, d9] }
  | _ => none }
def fnPlaybookContinuesMatchesModelRow : OpenClaim := { program := "qxb6606447a", sum := "001374293566f09a108b8ce7c16b7e9acdbdacaf54faf97d4fbd2a8c1ee5133f", func := "example.com/holdpoint/holdpoint/zzlaws_internal_playbook_b1.FnPlaybookContinuesMatchesModel", spec := "fnPlaybookContinuesMatchesModel", apart := false }
def FnPlaybookContinuesMatchesModelSaid : Prop := fnPlaybookContinuesMatchesModelRow.holds Try.pinned (OpenSpec.ofChange fnPlaybookContinuesMatchesModelSpec)

/-- ITS FALSE NEIGHBOUR: 'it returns false'. Refute it at one input. -/
def fnPlaybookContinuesMatchesModelWrong : ChangeSpec := { name := "fnPlaybookContinuesMatchesModel", fn := fun _ => fun
  | [d1, d2, d3, d4, d5, d6, d7, d8, d9] => { results := [.lit (.bool false)], args := [d1, d2, d3, d4, d5, d6, d7, d8, d9] }
  | _ => none }
def FnPlaybookContinuesMatchesModelWrongFalsely : Prop := fnPlaybookContinuesMatchesModelRow.holds Try.pinned (OpenSpec.ofChange fnPlaybookContinuesMatchesModelWrong)

/-- 'zzlaws_internal_playbook_b1.FnPlaybookContinuesRefusesInPlaceAcceptsForward': WHATEVER THE INPUT: true; the input reads as it did. -/
def fnPlaybookContinuesRefusesInPlaceAcceptsForwardSpec : ChangeSpec := { name := "fnPlaybookContinuesRefusesInPlaceAcceptsForward", fn := fun _ => fun
  | [d1, d2, d3, d4, d5, d6, d7, d8, d9] => { results := [.lit (.bool true)], args := [d1, d2, d3, d4, d5, d6, d7, d8, d9] }
  | _ => none }
def fnPlaybookContinuesRefusesInPlaceAcceptsForwardRow : OpenClaim := { program := "qxb6606447a", sum := "001374293566f09a108b8ce7c16b7e9acdbdacaf54faf97d4fbd2a8c1ee5133f", func := "example.com/holdpoint/holdpoint/zzlaws_internal_playbook_b1.FnPlaybookContinuesRefusesInPlaceAcceptsForward", spec := "fnPlaybookContinuesRefusesInPlaceAcceptsForward", apart := false }
def FnPlaybookContinuesRefusesInPlaceAcceptsForwardSaid : Prop := fnPlaybookContinuesRefusesInPlaceAcceptsForwardRow.holds Try.pinned (OpenSpec.ofChange fnPlaybookContinuesRefusesInPlaceAcceptsForwardSpec)

/-- ITS FALSE NEIGHBOUR: 'it returns false'. Refute it at one input. -/
def fnPlaybookContinuesRefusesInPlaceAcceptsForwardWrong : ChangeSpec := { name := "fnPlaybookContinuesRefusesInPlaceAcceptsForward", fn := fun _ => fun
  | [d1, d2, d3, d4, d5, d6, d7, d8, d9] => { results := [.lit (.bool false)], args := [d1, d2, d3, d4, d5, d6, d7, d8, d9] }
  | _ => none }
def FnPlaybookContinuesRefusesInPlaceAcceptsForwardWrongFalsely : Prop := fnPlaybookContinuesRefusesInPlaceAcceptsForwardRow.holds Try.pinned (OpenSpec.ofChange fnPlaybookContinuesRefusesInPlaceAcceptsForwardWrong)

/-- 'zzlaws_internal_playbook_b1.FnPlaybookContinuesItemMonotoneInIndent': WHATEVER THE INPUT: true; the input reads as it did. -/
def fnPlaybookContinuesItemMonotoneInIndentSpec : ChangeSpec := { name := "fnPlaybookContinuesItemMonotoneInIndent", fn := fun _ => fun
  | [d1, d2, d3, d4, d5, d6, d7, d8, d9] => { results := [.lit (.bool true)], args := [d1, d2, d3, d4, d5, d6, d7, d8, d9] }
  | _ => none }
def fnPlaybookContinuesItemMonotoneInIndentRow : OpenClaim := { program := "qxb6606447a", sum := "001374293566f09a108b8ce7c16b7e9acdbdacaf54faf97d4fbd2a8c1ee5133f", func := "example.com/holdpoint/holdpoint/zzlaws_internal_playbook_b1.FnPlaybookContinuesItemMonotoneInIndent", spec := "fnPlaybookContinuesItemMonotoneInIndent", apart := false }
def FnPlaybookContinuesItemMonotoneInIndentSaid : Prop := fnPlaybookContinuesItemMonotoneInIndentRow.holds Try.pinned (OpenSpec.ofChange fnPlaybookContinuesItemMonotoneInIndentSpec)

/-- ITS FALSE NEIGHBOUR: 'it returns false'. Refute it at one input. -/
def fnPlaybookContinuesItemMonotoneInIndentWrong : ChangeSpec := { name := "fnPlaybookContinuesItemMonotoneInIndent", fn := fun _ => fun
  | [d1, d2, d3, d4, d5, d6, d7, d8, d9] => { results := [.lit (.bool false)], args := [d1, d2, d3, d4, d5, d6, d7, d8, d9] }
  | _ => none }
def FnPlaybookContinuesItemMonotoneInIndentWrongFalsely : Prop := fnPlaybookContinuesItemMonotoneInIndentRow.holds Try.pinned (OpenSpec.ofChange fnPlaybookContinuesItemMonotoneInIndentWrong)

end Rows
end Go.Proofs.Qxb6606447a
