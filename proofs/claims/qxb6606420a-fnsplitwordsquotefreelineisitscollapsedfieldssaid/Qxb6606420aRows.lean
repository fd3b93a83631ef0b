/-
  No cell of these rows narrows 'for every input' (looked for: loops, veiled, ifaces, maps, wideKeys, modest, calm, conditions, laid).
  DERIVED. THE GIVEN ROWS OF THIS SEAT. 3 by the template 'for every input the law returns true; each argument reads behind the call as it read before'; 0 by the template 'total and deterministic' (their statements: Qxb6606420aTotals.lean).
  GIVEN WITH THE SEED: the statements are not yours to turn. If you find one false, say at which input.
  Laid BY PROGRAM, IN A SANDBOX (cutbox-rows.mjs): the forced cells as the released guide's own fill.sh prints them over the translation 0310986a317a350c… (all of the seat's roots in one cut). By AI agents, Wed Nov 11 2026. No macro, syntax, notation, axiom, sorry.
-/
import Derived.Test.Qxb6606420aChecked
import GoSem.Claim
import GoSem.ClaimJoined
import GoSem.ClaimMapViews
import Derived.JoinedTies
import Derived.KernelRfl
namespace Go.Proofs.Qxb6606420a
/- THE CELL 'sum', in the pinned program and in every row, IS THE sha256 OF THE DUMP (.gsa) THAT Qxb6606420aProg.lean LOADS. Nothing in Lean hashes anything: it is a label: what it is worth is what the hold of that sum in a sandbox is worth. -/
noncomputable def Try.pinned : Pinned := { name := "qxb6606420a", sum := "0310986a317a350c1d45531ab035c3989f2be8c892a2763a4391462b3e079bfc", checked := Try.checked }
namespace Rows
def none {H : Type} : Left H := { results := [], args := [] }

/-- 'zzlaws_internal_resp_b1.FnSplitWordsQuoteFreeLineIsItsCollapsedFields': WHATEVER THE INPUT: true; the input reads as it did. -/
def fnSplitWordsQuoteFreeLineIsItsCollapsedFieldsSpec : ChangeSpec := { name := "fnSplitWordsQuoteFreeLineIsItsCollapsedFields", fn := fun _ => fun
  | [d] => { results := [.lit (.bool true)], args := [d] }
  | _ => none }
def fnSplitWordsQuoteFreeLineIsItsCollapsedFieldsRow : OpenClaim := { program := "qxb6606420a", sum := "0310986a317a350c1d45531ab035c3989f2be8c892a2763a4391462b3e079bfc", func := "example.com/stillframe/stillframe/zzlaws_internal_resp_b1.FnSplitWordsQuoteFreeLineIsItsCollapsedFields", spec := "fnSplitWordsQuoteFreeLineIsItsCollapsedFields", apart := false }
def FnSplitWordsQuoteFreeLineIsItsCollapsedFieldsSaid : Prop := fnSplitWordsQuoteFreeLineIsItsCollapsedFieldsRow.holds Try.pinned (OpenSpec.ofChange fnSplitWordsQuoteFreeLineIsItsCollapsedFieldsSpec)

/-- ITS FALSE NEIGHBOUR: 'it returns false'. Refute it at one input. -/
def fnSplitWordsQuoteFreeLineIsItsCollapsedFieldsWrong : ChangeSpec := { name := "fnSplitWordsQuoteFreeLineIsItsCollapsedFields", fn := fun _ => fun
  | [d] => { results := [.lit (.bool false)], args := [d] }
  | _ => none }
def FnSplitWordsQuoteFreeLineIsItsCollapsedFieldsWrongFalsely : Prop := fnSplitWordsQuoteFreeLineIsItsCollapsedFieldsRow.holds Try.pinned (OpenSpec.ofChange fnSplitWordsQuoteFreeLineIsItsCollapsedFieldsWrong)

/-- 'zzlaws_internal_resp_b1.FnSplitWordsRefusesALoneQuote': WHATEVER THE INPUT: true; the input reads as it did. -/
def fnSplitWordsRefusesALoneQuoteSpec : ChangeSpec := { name := "fnSplitWordsRefusesALoneQuote", fn := fun _ => fun
  | [d] => { results := [.lit (.bool true)], args := [d] }
  | _ => none }
def fnSplitWordsRefusesALoneQuoteRow : OpenClaim := { program := "qxb6606420a", sum := "0310986a317a350c1d45531ab035c3989f2be8c892a2763a4391462b3e079bfc", func := "example.com/stillframe/stillframe/zzlaws_internal_resp_b1.FnSplitWordsRefusesALoneQuote", spec := "fnSplitWordsRefusesALoneQuote", apart := false }
def FnSplitWordsRefusesALoneQuoteSaid : Prop := fnSplitWordsRefusesALoneQuoteRow.holds Try.pinned (OpenSpec.ofChange fnSplitWordsRefusesALoneQuoteSpec)

/-- ITS FALSE NEIGHBOUR: 'it returns false'. Refute it at one input. -/
def fnSplitWordsRefusesALoneQuoteWrong : ChangeSpec := { name := "fnSplitWordsRefusesALoneQuote", fn := fun _ => fun
  | [d] => { results := [.lit (.bool false)], args := [d] }
  | _ => none }
def FnSplitWordsRefusesALoneQuoteWrongFalsely : Prop := fnSplitWordsRefusesALoneQuoteRow.holds Try.pinned (OpenSpec.ofChange fnSplitWordsRefusesALoneQuoteWrong)

/-- 'zzlaws_internal_resp_b1.FnSplitWordsRefusesTextGluedToAClosingQuote': WHATEVER THE INPUT: true; the input reads as it did. -/
def fnSplitWordsRefusesTextGluedToAClosingQuoteSpec : ChangeSpec := { name := "fnSplitWordsRefusesTextGluedToAClosingQuote", fn := fun _ => fun
  | [d1, d2, d3, d4, d5] => { results := [.lit (.bool true)], args := [d1, d2, d3, d4, d5] }
  | _ => none }
def fnSplitWordsRefusesTextGluedToAClosingQuoteRow : OpenClaim := { program := "qxb6606420a", sum := "0310986a317a350c1d45531ab035c3989f2be8c892a2763a4391462b3e079bfc", func := "example.com/stillframe/stillframe/zzlaws_internal_resp_b1.FnSplitWordsRefusesTextGluedToAClosingQuote", spec := "fnSplitWordsRefusesTextGluedToAClosingQuote", apart := false }
def FnSplitWordsRefusesTextGluedToAClosingQuoteSaid : Prop := fnSplitWordsRefusesTextGluedToAClosingQuoteRow.holds Try.pinned (OpenSpec.ofChange fnSplitWordsRefusesTextGluedToAClosingQuoteSpec)

/-- ITS FALSE NEIGHBOUR: 'it returns false'. Refute it at one input. -/
def fnSplitWordsRefusesTextGluedToAClosingQuoteWrong : ChangeSpec := { name := "fnSplitWordsRefusesTextGluedToAClosingQuote", fn := fun _ => fun
  | [d1, d2, d3, d4, d5] => { results := [.lit (.bool false)], args := [d1, d2, d3, d4, d5] }
  | _ => none }
def FnSplitWordsRefusesTextGluedToAClosingQuoteWrongFalsely : Prop := fnSplitWordsRefusesTextGluedToAClosingQuoteRow.holds Try.pinned (OpenSpec.ofChange fnSplitWordsRefusesTextGluedToAClosingQuoteWrong)

end Rows
end Go.Proofs.Qxb6606420a
