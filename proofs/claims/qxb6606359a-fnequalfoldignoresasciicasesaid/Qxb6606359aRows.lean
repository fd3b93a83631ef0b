/-
  No cell of these rows narrows 'for every input' (looked for: loops, veiled, ifaces, maps, wideKeys, modest, calm, conditions, laid).
  DERIVED. THE GIVEN ROWS OF THIS SEAT. 3 by the template 'for every input the law returns true; each argument reads behind the call as it read before'; 0 by the template 'total and deterministic' (their statements: Qxb6606359aTotals.lean).
  GIVEN WITH THE SEED: the statements are not yours to turn. If you find one false, say at which input.
  Laid BY PROGRAM, IN A SANDBOX (cutbox-rows.mjs): the forced cells as the released guide's own fill.sh prints them over the translation 133f7f5217f7b40e… (all of the seat's roots in one cut). By AI agents, Wed Nov 11 2026. No macro, syntax, notation, axiom, sorry.
-/
import Derived.Test.Qxb6606359aChecked
import GoSem.Claim
import GoSem.ClaimJoined
import GoSem.ClaimMapViews
import Derived.JoinedTies
import Derived.KernelRfl
namespace Go.Proofs.Qxb6606359a
/- THE CELL 'sum', in the pinned program and in every row, IS THE sha256 OF THE DUMP (.gsa) THAT Qxb6606359aProg.lean LOADS. Nothing in Lean hashes anything: it is a label: what it is worth is what the hold of that sum in a sandbox is worth. -/
noncomputable def Try.pinned : Pinned := { name := "qxb6606359a", sum := "133f7f5217f7b40e8c753e511f7607857ab2fc3b21eb1a9074bce7e0f6078ede", checked := Try.checked }
namespace Rows
def none {H : Type} : Left H := { results := [], args := [] }

/-- 'zzlaws_internal_httpserve_b1.FnEqualFoldMatchesCaseBitModel': WHATEVER THE INPUT: true; the input reads as it did. -/
def fnEqualFoldMatchesCaseBitModelSpec : ChangeSpec := { name := "fnEqualFoldMatchesCaseBitModel", fn := fun _ => fun
  | [d1, d2] => { results := [.lit (.bool true)], args := [d1, d2] }
  | _ => none }
def fnEqualFoldMatchesCaseBitModelRow : OpenClaim := { program := "qxb6606359a", sum := "133f7f5217f7b40e8c753e511f7607857ab2fc3b21eb1a9074bce7e0f6078ede", func := "example.com/ingolstadt/ingolstadt/zzlaws_internal_httpserve_b1.FnEqualFoldMatchesCaseBitModel", spec := "fnEqualFoldMatchesCaseBitModel", apart := false }
def FnEqualFoldMatchesCaseBitModelSaid : Prop := fnEqualFoldMatchesCaseBitModelRow.holds Try.pinned (OpenSpec.ofChange fnEqualFoldMatchesCaseBitModelSpec)

/-- ITS FALSE NEIGHBOUR: 'it returns false'. Refute it at one input. -/
def fnEqualFoldMatchesCaseBitModelWrong : ChangeSpec := { name := "fnEqualFoldMatchesCaseBitModel", fn := fun _ => fun
  | [d1, d2] => { results := [.lit (.bool false)], args := [d1, d2] }
  | _ => none }
def FnEqualFoldMatchesCaseBitModelWrongFalsely : Prop := fnEqualFoldMatchesCaseBitModelRow.holds Try.pinned (OpenSpec.ofChange fnEqualFoldMatchesCaseBitModelWrong)

/-- 'zzlaws_internal_httpserve_b1.FnEqualFoldIsEquivalence': WHATEVER THE INPUT: true; the input reads as it did. -/
def fnEqualFoldIsEquivalenceSpec : ChangeSpec := { name := "fnEqualFoldIsEquivalence", fn := fun _ => fun
  | [d1, d2, d3] => { results := [.lit (.bool true)], args := [d1, d2, d3] }
  | _ => none }
def fnEqualFoldIsEquivalenceRow : OpenClaim := { program := "qxb6606359a", sum := "133f7f5217f7b40e8c753e511f7607857ab2fc3b21eb1a9074bce7e0f6078ede", func := "example.com/ingolstadt/ingolstadt/zzlaws_internal_httpserve_b1.FnEqualFoldIsEquivalence", spec := "fnEqualFoldIsEquivalence", apart := false }
def FnEqualFoldIsEquivalenceSaid : Prop := fnEqualFoldIsEquivalenceRow.holds Try.pinned (OpenSpec.ofChange fnEqualFoldIsEquivalenceSpec)

/-- ITS FALSE NEIGHBOUR: 'it returns false'. Refute it at one input. -/
def fnEqualFoldIsEquivalenceWrong : ChangeSpec := { name := "fnEqualFoldIsEquivalence", fn := fun _ => fun
  | [d1, d2, d3] => { results := [.lit (.bool false)], args := [d1, d2, d3] }
  | _ => none }
def FnEqualFoldIsEquivalenceWrongFalsely : Prop := fnEqualFoldIsEquivalenceRow.holds Try.pinned (OpenSpec.ofChange fnEqualFoldIsEquivalenceWrong)

/-- 'zzlaws_internal_httpserve_b1.FnEqualFoldIgnoresAsciiCase': WHATEVER THE INPUT: true; the input reads as it did. -/
def fnEqualFoldIgnoresAsciiCaseSpec : ChangeSpec := { name := "fnEqualFoldIgnoresAsciiCase", fn := fun _ => fun
  | [d1, d2] => { results := [.lit (.bool true)], args := [d1, d2] }
  | _ => none }
def fnEqualFoldIgnoresAsciiCaseRow : OpenClaim := { program := "qxb6606359a", sum := "133f7f5217f7b40e8c753e511f7607857ab2fc3b21eb1a9074bce7e0f6078ede", func := "example.com/ingolstadt/ingolstadt/zzlaws_internal_httpserve_b1.FnEqualFoldIgnoresAsciiCase", spec := "fnEqualFoldIgnoresAsciiCase", apart := false }
def FnEqualFoldIgnoresAsciiCaseSaid : Prop := fnEqualFoldIgnoresAsciiCaseRow.holds Try.pinned (OpenSpec.ofChange fnEqualFoldIgnoresAsciiCaseSpec)

/-- ITS FALSE NEIGHBOUR: 'it returns false'. Refute it at one input. -/
def fnEqualFoldIgnoresAsciiCaseWrong : ChangeSpec := { name := "fnEqualFoldIgnoresAsciiCase", fn := fun _ => fun
  | [d1, d2] => { results := [.lit (.bool false)], args := [d1, d2] }
  | _ => none }
def FnEqualFoldIgnoresAsciiCaseWrongFalsely : Prop := fnEqualFoldIgnoresAsciiCaseRow.holds Try.pinned (OpenSpec.ofChange fnEqualFoldIgnoresAsciiCaseWrong)

end Rows
end Go.Proofs.Qxb6606359a
