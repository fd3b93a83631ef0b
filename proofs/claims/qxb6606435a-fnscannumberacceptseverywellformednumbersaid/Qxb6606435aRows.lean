/-
  No cell of these rows narrows 'for every input' (looked for: loops, veiled, ifaces, maps, wideKeys, modest, calm, conditions, laid).
  DERIVED. THE GIVEN ROWS OF THIS SEAT. 3 by the template 'for every input the law returns true; each argument reads behind the call as it read before'; 0 by the template 'total and deterministic' (their statements: Qxb6606435aTotals.lean).
  GIVEN WITH THE SEED: the statements are not yours to turn. If you find one false, say at which input.
  Laid BY PROGRAM, IN A SANDBOX (cutbox-rows.mjs): the forced cells as the released guide's own fill.sh prints them over the translation 826248e48401d22d… (all of the seat's roots in one cut). By AI agents, Wed Nov 11 2026. No macro, syntax, notation, axiom, sorry.
-/
import Derived.Test.Qxb6606435aChecked
import GoSem.Claim
import GoSem.ClaimJoined
import GoSem.ClaimMapViews
import Derived.JoinedTies
import Derived.KernelRfl
namespace Go.Proofs.Qxb6606435a
/- THE CELL 'sum', in the pinned program and in every row, IS THE sha256 OF THE DUMP (.gsa) THAT Qxb6606435aProg.lean LOADS. Nothing in Lean hashes anything: it is a label: what it is worth is what the hold of that sum in a sandbox is worth. -/
noncomputable def Try.pinned : Pinned := { name := "qxb6606435a", sum := "826248e48401d22db1a198ae7f31230d9b00e75feade8b9931709033ac7fb07d", checked := Try.checked }
namespace Rows
def none {H : Type} : Left H := { results := [], args := [] }

/-- 'zzlaws_packet_b1.FnScanNumberMatchesGrammarAutomaton': WHATEVER THE INPUT: true; the input reads as it did. -/
def fnScanNumberMatchesGrammarAutomatonSpec : ChangeSpec := { name := "fnScanNumberMatchesGrammarAutomaton", fn := fun _ => fun
  | [d1, d2] => { results := [.lit (.bool true)], args := [d1, d2] }
  | _ => none }
def fnScanNumberMatchesGrammarAutomatonRow : OpenClaim := { program := "qxb6606435a", sum := "826248e48401d22db1a198ae7f31230d9b00e75feade8b9931709033ac7fb07d", func := "example.com/wireloom/wireloom/zzlaws_packet_b1.FnScanNumberMatchesGrammarAutomaton", spec := "fnScanNumberMatchesGrammarAutomaton", apart := false }
def FnScanNumberMatchesGrammarAutomatonSaid : Prop := fnScanNumberMatchesGrammarAutomatonRow.holds Try.pinned (OpenSpec.ofChange fnScanNumberMatchesGrammarAutomatonSpec)

/-- ITS FALSE NEIGHBOUR: 'it returns false'. Refute it at one input. -/
def fnScanNumberMatchesGrammarAutomatonWrong : ChangeSpec := { name := "fnScanNumberMatchesGrammarAutomaton", fn := fun _ => fun
  | [d1, d2] => { results := [.lit (.bool false)], args := [d1, d2] }
  | _ => none }
def FnScanNumberMatchesGrammarAutomatonWrongFalsely : Prop := fnScanNumberMatchesGrammarAutomatonRow.holds Try.pinned (OpenSpec.ofChange fnScanNumberMatchesGrammarAutomatonWrong)

/-- 'zzlaws_packet_b1.FnScanNumberBoundedAndSelfDelimiting': WHATEVER THE INPUT: true; the input reads as it did. -/
def fnScanNumberBoundedAndSelfDelimitingSpec : ChangeSpec := { name := "fnScanNumberBoundedAndSelfDelimiting", fn := fun _ => fun
  | [d1, d2] => { results := [.lit (.bool true)], args := [d1, d2] }
  | _ => none }
def fnScanNumberBoundedAndSelfDelimitingRow : OpenClaim := { program := "qxb6606435a", sum := "826248e48401d22db1a198ae7f31230d9b00e75feade8b9931709033ac7fb07d", func := "example.com/wireloom/wireloom/zzlaws_packet_b1.FnScanNumberBoundedAndSelfDelimiting", spec := "fnScanNumberBoundedAndSelfDelimiting", apart := false }
def FnScanNumberBoundedAndSelfDelimitingSaid : Prop := fnScanNumberBoundedAndSelfDelimitingRow.holds Try.pinned (OpenSpec.ofChange fnScanNumberBoundedAndSelfDelimitingSpec)

/-- ITS FALSE NEIGHBOUR: 'it returns false'. Refute it at one input. -/
def fnScanNumberBoundedAndSelfDelimitingWrong : ChangeSpec := { name := "fnScanNumberBoundedAndSelfDelimiting", fn := fun _ => fun
  | [d1, d2] => { results := [.lit (.bool false)], args := [d1, d2] }
  | _ => none }
def FnScanNumberBoundedAndSelfDelimitingWrongFalsely : Prop := fnScanNumberBoundedAndSelfDelimitingRow.holds Try.pinned (OpenSpec.ofChange fnScanNumberBoundedAndSelfDelimitingWrong)

/-- 'zzlaws_packet_b1.FnScanNumberAcceptsEveryWellFormedNumber': WHATEVER THE INPUT: true; the input reads as it did. -/
def fnScanNumberAcceptsEveryWellFormedNumberSpec : ChangeSpec := { name := "fnScanNumberAcceptsEveryWellFormedNumber", fn := fun _ => fun
  | [d1, d2, d3, d4, d5, d6, d7, d8] => { results := [.lit (.bool true)], args := [d1, d2, d3, d4, d5, d6, d7, d8] }
  | _ => none }
def fnScanNumberAcceptsEveryWellFormedNumberRow : OpenClaim := { program := "qxb6606435a", sum := "826248e48401d22db1a198ae7f31230d9b00e75feade8b9931709033ac7fb07d", func := "example.com/wireloom/wireloom/zzlaws_packet_b1.FnScanNumberAcceptsEveryWellFormedNumber", spec := "fnScanNumberAcceptsEveryWellFormedNumber", apart := false }
def FnScanNumberAcceptsEveryWellFormedNumberSaid : Prop := fnScanNumberAcceptsEveryWellFormedNumberRow.holds Try.pinned (OpenSpec.ofChange fnScanNumberAcceptsEveryWellFormedNumberSpec)

/-- ITS FALSE NEIGHBOUR: 'it returns false'. Refute it at one input. -/
def fnScanNumberAcceptsEveryWellFormedNumberWrong : ChangeSpec := { name := "fnScanNumberAcceptsEveryWellFormedNumber", fn := fun _ => fun
  | [d1, d2, d3, d4, d5, d6, d7, d8] => { results := [.lit (.bool false)], args := [d1, d2, d3, d4, d5, d6, d7, d8] }
  | _ => none }
def FnScanNumberAcceptsEveryWellFormedNumberWrongFalsely : Prop := fnScanNumberAcceptsEveryWellFormedNumberRow.holds Try.pinned (OpenSpec.ofChange fnScanNumberAcceptsEveryWellFormedNumberWrong)

end Rows
end Go.Proofs.Qxb6606435a
