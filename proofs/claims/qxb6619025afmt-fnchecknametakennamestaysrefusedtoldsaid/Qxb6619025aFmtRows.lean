/-
  No cell of these rows narrows 'for every input' (looked for: loops, veiled, ifaces, maps, wideKeys, modest, calm, conditions, laid).
  DERIVED. THE GIVEN ROWS OF THIS SEAT. 2 by the template 'for every input the law returns true; each argument reads behind the call as it read before'; 0 by the template 'total and deterministic' (their statements: Qxb6619025aFmtTotals.lean).
  GIVEN WITH THE SEED: the statements are not yours to turn. If you find one false, say at which input.
  Laid BY PROGRAM, IN A SANDBOX (cutbox-rows.mjs): the forced cells as the released guide's own fill.sh prints them over the translation 7973adf19e718cf5… (all of the seat's roots in one cut). By AI agents, Wed Nov 11 2026. No macro, syntax, notation, axiom, sorry.
-/
import Derived.Test.Qxb6619025aFmtChecked
import GoSem.Claim
import GoSem.ClaimJoined
import GoSem.ClaimMapViews
import Derived.JoinedTies
import Derived.KernelRfl
namespace Go.Proofs.Qxb6619025aFmt
/- THE CELL 'sum', in the pinned program and in every row, IS THE sha256 OF THE DUMP (.gsa) THAT Qxb6619025aFmtProg.lean LOADS. Nothing in Lean hashes anything: it is a label: what it is worth is what the hold of that sum in a sandbox is worth. -/
noncomputable def Tryf.pinned : Pinned := { name := "qxb6619025afmt", sum := "7973adf19e718cf59bf593312c15ce2de7d1ef3fbb66961846caca2b2d5c20af", checked := Tryf.checked }
namespace Rows
def none {H : Type} : Left H := { results := [], args := [] }

/-- 'zzlaws_internal_plandoc_b1.FnCheckNameRefusesExactlyRepeatedNames': WHATEVER THE INPUT: true; the input reads as it did. -/
def fnCheckNameRefusesExactlyRepeatedNamesSpec : ChangeSpec := { name := "fnCheckNameRefusesExactlyRepeatedNames", fn := fun _ => fun
  | [d1, d2, d3, d4] => { results := [.lit (.bool true)], args := [d1, d2, d3, d4] }
  | _ => none }
def fnCheckNameRefusesExactlyRepeatedNamesRow : OpenClaim := { program := "qxb6619025afmt", sum := "7973adf19e718cf59bf593312c15ce2de7d1ef3fbb66961846caca2b2d5c20af", func := "example.com/vestline/vestline/zzlaws_internal_plandoc_b1.FnCheckNameRefusesExactlyRepeatedNames", spec := "fnCheckNameRefusesExactlyRepeatedNames", stops := ["fmt.Sprintf", "fmt.errorf, its operands' methods called"], inPlace := ["fmt.Sprintf", "fmt.errorf"], unfollowed := true, recurses := true, apart := false }
/-- NO THEOREM (fmt's text is open here; it may be false): for the released tool's asking of the row's closed facts alone. THE STATEMENT IS 'FnCheckNameRefusesExactlyRepeatedNamesToldSaid' (Qxb6619025aFmtCards.lean). -/
def FnCheckNameRefusesExactlyRepeatedNamesFormAsk : Prop := fnCheckNameRefusesExactlyRepeatedNamesRow.holds Tryf.pinned (OpenSpec.ofChange fnCheckNameRefusesExactlyRepeatedNamesSpec)

/-- ITS FALSE NEIGHBOUR: 'it returns false'. Refute it at one input. -/
def fnCheckNameRefusesExactlyRepeatedNamesWrong : ChangeSpec := { name := "fnCheckNameRefusesExactlyRepeatedNames", fn := fun _ => fun
  | [d1, d2, d3, d4] => { results := [.lit (.bool false)], args := [d1, d2, d3, d4] }
  | _ => none }
def FnCheckNameRefusesExactlyRepeatedNamesWrongFormAsk : Prop := fnCheckNameRefusesExactlyRepeatedNamesRow.holds Tryf.pinned (OpenSpec.ofChange fnCheckNameRefusesExactlyRepeatedNamesWrong)

/-- 'zzlaws_internal_plandoc_b1.FnCheckNameTakenNameStaysRefused': WHATEVER THE INPUT: true; the input reads as it did. -/
def fnCheckNameTakenNameStaysRefusedSpec : ChangeSpec := { name := "fnCheckNameTakenNameStaysRefused", fn := fun _ => fun
  | [d1, d2, d3, d4, d5, d6, d7] => { results := [.lit (.bool true)], args := [d1, d2, d3, d4, d5, d6, d7] }
  | _ => none }
def fnCheckNameTakenNameStaysRefusedRow : OpenClaim := { program := "qxb6619025afmt", sum := "7973adf19e718cf59bf593312c15ce2de7d1ef3fbb66961846caca2b2d5c20af", func := "example.com/vestline/vestline/zzlaws_internal_plandoc_b1.FnCheckNameTakenNameStaysRefused", spec := "fnCheckNameTakenNameStaysRefused", stops := ["fmt.Sprintf", "fmt.errorf, its operands' methods called"], inPlace := ["fmt.Sprintf", "fmt.errorf"], unfollowed := true, recurses := true, apart := false }
/-- NO THEOREM (fmt's text is open here; it may be false): for the released tool's asking of the row's closed facts alone. THE STATEMENT IS 'FnCheckNameTakenNameStaysRefusedToldSaid' (Qxb6619025aFmtCards.lean). -/
def FnCheckNameTakenNameStaysRefusedFormAsk : Prop := fnCheckNameTakenNameStaysRefusedRow.holds Tryf.pinned (OpenSpec.ofChange fnCheckNameTakenNameStaysRefusedSpec)

/-- ITS FALSE NEIGHBOUR: 'it returns false'. Refute it at one input. -/
def fnCheckNameTakenNameStaysRefusedWrong : ChangeSpec := { name := "fnCheckNameTakenNameStaysRefused", fn := fun _ => fun
  | [d1, d2, d3, d4, d5, d6, d7] => { results := [.lit (.bool false)], args := [d1, d2, d3, d4, d5, d6, d7] }
  | _ => none }
def FnCheckNameTakenNameStaysRefusedWrongFormAsk : Prop := fnCheckNameTakenNameStaysRefusedRow.holds Tryf.pinned (OpenSpec.ofChange fnCheckNameTakenNameStaysRefusedWrong)

end Rows
end Go.Proofs.Qxb6619025aFmt
