import Derived.Test.Qxb6619025aFmtPdJ
import Derived.Stop.Texts
import Derived.Stop.Told
import Derived.Stop.FmtTextKit
import Derived.Stop.FmtTextVerbs
namespace Go.Proofs.Qxb6619025aFmt
open Go.RowKit Go.Kit Go.Extern.Stop Go.Stop Go.Extern
set_option linter.unusedVariables false

theorem t_parse : (FmtText.parse [37, 115, 32, 37, 100]).map FmtText.glue = some [.verb {} 115, .lit [32], .verb {} 100] := by rfl
theorem t_text (p : List UInt8) (n : Int) (hs : p.length < 2 ^ 64) (hw : (Lit.int .i64 n).wf = true) : FmtText.text "fmt.Sprintf" (sReading p n) = some (p ++ ([32] ++ Lib.itoa n)) := by
  have hi := FmtText.operand_int_at (sh := shape3) (k := .i64) rfl rfl n hw
  have hn := FmtText.operand_str_at (sh := shape9) rfl rfl p hs
  rw [sReading, FmtText.text_sprintf_glued t_parse (FmtText.operands_cons hn (FmtText.operands_cons hi FmtText.operands_nil))]
  simp [FmtText.render, FmtText.printArg_d _ _ hw, FmtText.printArg_s_str]
/-- The told text of Sprintf is short. -/
theorem t_size (F : Interp) (p : ByteArray) (n : Int) (hp : p.size ≤ 65536) (hw : (Lit.int .i64 n).wf = true) : (FmtStop.textOf (F.told "fmt.Sprintf" (sReading p.data.toList n) 0)).size ≤ 1000000 := by
  have hpl : p.data.toList.length ≤ 65536 := by simpa using hp
  have hl := FmtText.itoa_length_le hw
  have ht := told_string F (t_text p.data.toList n (by omega) hw) (by simp only [List.length_append, List.length_singleton]; omega)
  have e := textOf_list F.told "fmt.Sprintf" (sReading p.data.toList n)
  rw [ht] at e
  have e2 : (FmtStop.textOf (F.told "fmt.Sprintf" (sReading p.data.toList n) 0)).size = (p.data.toList ++ ([32] ++ Lib.itoa n)).length := by
    rw [← e, Array.length_toList]
    rfl
  rw [e2]
  simp only [List.length_append, List.length_singleton]
  omega
end Go.Proofs.Qxb6619025aFmt
