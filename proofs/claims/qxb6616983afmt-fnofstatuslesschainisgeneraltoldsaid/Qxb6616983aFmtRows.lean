/-
  NARROWER THAN 'FOR EVERY INPUT', by the rows' own cells (each row's printed sentence says how): FnOfStatuslessChainIsGeneral: laid.
  DERIVED. THE GIVEN ROWS OF THIS SEAT. 1 by the template 'for every input the law returns true; each argument reads behind the call as it read before'; 0 by the template 'total and deterministic' (their statements: Qxb6616983aFmtTotals.lean).
  GIVEN WITH THE SEED: the statements are not yours to turn. If you find one false, say at which input.
  Laid BY PROGRAM, IN A SANDBOX (cutbox-rows.mjs): the forced cells as the released guide's own fill.sh prints them over the translation 3563b13234bd01ae… (all of the seat's roots in one cut). By AI agents, Wed Nov 11 2026. No macro, syntax, notation, axiom, sorry.
-/
import Derived.Test.Qxb6616983aFmtChecked
import GoSem.Claim
import GoSem.ClaimJoined
import GoSem.ClaimMapViews
import Derived.JoinedTies
import Derived.KernelRfl
namespace Go.Proofs.Qxb6616983aFmt
/- THE CELL 'sum', in the pinned program and in every row, IS THE sha256 OF THE DUMP (.gsa) THAT Qxb6616983aFmtProg.lean LOADS. Nothing in Lean hashes anything: it is a label: what it is worth is what the hold of that sum in a sandbox is worth. -/
noncomputable def Tryf.pinned : Pinned := { name := "qxb6616983afmt", sum := "3563b13234bd01aeafc64d3d85b4c57b654a8c7bd177ac45fd8ad7de5790210e", checked := Tryf.checked }
namespace Rows
def none {H : Type} : Left H := { results := [], args := [] }

/- WHAT THE LISTED PACKAGE-LEVEL VARIABLES READ AS WHEN THE CALL BEGINS. Each datum BY PROGRAM (the guide's laid-datum.mjs) off the statement by which the dump's own 'gosem.cut.vars' lays the variable. In a bare row this is a premise. The card (Qxb6616983aFmtCards.lean) ties it to the program's text. -/
def laid_errors_errorType {H : Type} : DataW H := .iface "internal/reflectlite.rtype" (.agg [.ptr (.lit (.string [101, 114, 114, 111, 114]))])

/-- 'zzlaws_internal_exitstatus_b1.FnOfStatuslessChainIsGeneral': WHATEVER THE INPUT: true; the input reads as it did. -/
def fnOfStatuslessChainIsGeneralSpec : ChangeSpec := { name := "fnOfStatuslessChainIsGeneral", fn := fun _ => fun
  | [d1, d2] => { results := [.lit (.bool true)], args := [d1, d2] }
  | _ => none }
def fnOfStatuslessChainIsGeneralRow : OpenClaim := { program := "qxb6616983afmt", sum := "3563b13234bd01aeafc64d3d85b4c57b654a8c7bd177ac45fd8ad7de5790210e", func := "example.com/stemhold/stemhold/zzlaws_internal_exitstatus_b1.FnOfStatuslessChainIsGeneral", spec := "fnOfStatuslessChainIsGeneral", stops := ["fmt.errorf, its operands' methods called"], inPlace := ["internal/reflectlite.ValueOf", "(internal/reflectlite.Value).Type", "(internal/reflectlite.Value).IsNil", "internal/reflectlite.TypeOf", "(internal/reflectlite.Value).Elem", "(internal/reflectlite.Value).Set", "fmt.errorf"], unfollowed := true, recurses := true, named := ["errors.errorType"], apart := false, laid := [("errors.errorType", laid_errors_errorType)] }
/-- NO THEOREM (fmt's text is open here; it may be false): for the released tool's asking of the row's closed facts alone. THE STATEMENT IS 'FnOfStatuslessChainIsGeneralToldSaid' (Qxb6616983aFmtCards.lean). -/
def FnOfStatuslessChainIsGeneralFormAsk : Prop := fnOfStatuslessChainIsGeneralRow.holds Tryf.pinned (OpenSpec.ofChange fnOfStatuslessChainIsGeneralSpec)

/-- ITS FALSE NEIGHBOUR: 'it returns false'. Refute it at one input. -/
def fnOfStatuslessChainIsGeneralWrong : ChangeSpec := { name := "fnOfStatuslessChainIsGeneral", fn := fun _ => fun
  | [d1, d2] => { results := [.lit (.bool false)], args := [d1, d2] }
  | _ => none }
def FnOfStatuslessChainIsGeneralWrongFormAsk : Prop := fnOfStatuslessChainIsGeneralRow.holds Tryf.pinned (OpenSpec.ofChange fnOfStatuslessChainIsGeneralWrong)

end Rows
end Go.Proofs.Qxb6616983aFmt
