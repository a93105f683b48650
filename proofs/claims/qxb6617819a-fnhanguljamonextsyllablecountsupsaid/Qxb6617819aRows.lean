/-
  No cell of these rows narrows 'for every input' (looked for: loops, veiled, ifaces, maps, wideKeys, modest, calm, conditions, laid).
  DERIVED. THE GIVEN ROWS OF THIS SEAT. 2 by the template 'for every input the law returns true; each argument reads behind the call as it read before'; 0 by the template 'total and deterministic' (their statements: Qxb6617819aTotals.lean).
  GIVEN WITH THE SEED: the statements are not yours to turn. If you find one false, say at which input.
  Laid BY PROGRAM, IN A SANDBOX (cutbox-rows.mjs): the forced cells as the released guide's own fill.sh prints them over the translation 587b00b11eb60282… (all of the seat's roots in one cut). By AI agents, Wed Nov 11 2026. No macro, syntax, notation, axiom, sorry.
-/
import Derived.Test.Qxb6617819aChecked
import GoSem.Claim
import GoSem.ClaimJoined
import GoSem.ClaimMapViews
import Derived.JoinedTies
import Derived.KernelRfl
namespace Go.Proofs.Qxb6617819a
/- THE CELL 'sum', in the pinned program and in every row, IS THE sha256 OF THE DUMP (.gsa) THAT Qxb6617819aProg.lean LOADS. Nothing in Lean hashes anything: it is a label: what it is worth is what the hold of that sum in a sandbox is worth. -/
noncomputable def Try.pinned : Pinned := { name := "qxb6617819a", sum := "587b00b11eb60282b5575ddc78b10767d40e2ce9e453e2b7a078dfb3a45b045d", checked := Try.checked }
namespace Rows
def none {H : Type} : Left H := { results := [], args := [] }

/-- 'zzlaws_pkg_g2_b1.FnHangulJamoComposesBackToTheSyllable': WHATEVER THE INPUT: true; the input reads as it did. -/
def fnHangulJamoComposesBackToTheSyllableSpec : ChangeSpec := { name := "fnHangulJamoComposesBackToTheSyllable", fn := fun _ => fun
  | [d] => { results := [.lit (.bool true)], args := [d] }
  | _ => none }
def fnHangulJamoComposesBackToTheSyllableRow : OpenClaim := { program := "qxb6617819a", sum := "587b00b11eb60282b5575ddc78b10767d40e2ce9e453e2b7a078dfb3a45b045d", func := "example.com/hubward/hubward/zzlaws_pkg_g2_b1.FnHangulJamoComposesBackToTheSyllable", spec := "fnHangulJamoComposesBackToTheSyllable", apart := false }
def FnHangulJamoComposesBackToTheSyllableSaid : Prop := fnHangulJamoComposesBackToTheSyllableRow.holds Try.pinned (OpenSpec.ofChange fnHangulJamoComposesBackToTheSyllableSpec)

/-- ITS FALSE NEIGHBOUR: 'it returns false'. Refute it at one input. -/
def fnHangulJamoComposesBackToTheSyllableWrong : ChangeSpec := { name := "fnHangulJamoComposesBackToTheSyllable", fn := fun _ => fun
  | [d] => { results := [.lit (.bool false)], args := [d] }
  | _ => none }
def FnHangulJamoComposesBackToTheSyllableWrongFalsely : Prop := fnHangulJamoComposesBackToTheSyllableRow.holds Try.pinned (OpenSpec.ofChange fnHangulJamoComposesBackToTheSyllableWrong)

/-- 'zzlaws_pkg_g2_b1.FnHangulJamoNextSyllableCountsUp': WHATEVER THE INPUT: true; the input reads as it did. -/
def fnHangulJamoNextSyllableCountsUpSpec : ChangeSpec := { name := "fnHangulJamoNextSyllableCountsUp", fn := fun _ => fun
  | [d] => { results := [.lit (.bool true)], args := [d] }
  | _ => none }
def fnHangulJamoNextSyllableCountsUpRow : OpenClaim := { program := "qxb6617819a", sum := "587b00b11eb60282b5575ddc78b10767d40e2ce9e453e2b7a078dfb3a45b045d", func := "example.com/hubward/hubward/zzlaws_pkg_g2_b1.FnHangulJamoNextSyllableCountsUp", spec := "fnHangulJamoNextSyllableCountsUp", apart := false }
def FnHangulJamoNextSyllableCountsUpSaid : Prop := fnHangulJamoNextSyllableCountsUpRow.holds Try.pinned (OpenSpec.ofChange fnHangulJamoNextSyllableCountsUpSpec)

/-- ITS FALSE NEIGHBOUR: 'it returns false'. Refute it at one input. -/
def fnHangulJamoNextSyllableCountsUpWrong : ChangeSpec := { name := "fnHangulJamoNextSyllableCountsUp", fn := fun _ => fun
  | [d] => { results := [.lit (.bool false)], args := [d] }
  | _ => none }
def FnHangulJamoNextSyllableCountsUpWrongFalsely : Prop := fnHangulJamoNextSyllableCountsUpRow.holds Try.pinned (OpenSpec.ofChange fnHangulJamoNextSyllableCountsUpWrong)

end Rows
end Go.Proofs.Qxb6617819a
