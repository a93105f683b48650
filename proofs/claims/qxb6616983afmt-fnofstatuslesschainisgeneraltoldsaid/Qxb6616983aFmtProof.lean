/-
  'Rows.FnOfStatuslessChainIsGeneralToldSaid', proved: the told and tied card.
-/
import Derived.Test.Qxb6616983aFmtTie
import Derived.Test.Qxb6616983aFmtCards
import Derived.Test.Qxb6616983aFmtWalkD
import Derived.ProofKit
import Derived.ShutString
import Derived.LaidLaws
import Derived.LaidHandle
import Derived.Stop.Joined
import Derived.Stop.JoinedTold
import Derived.Deep.DeepWitnessRef
import Derived.SevenTiedAt
namespace Go.Proofs.Qxb6616983aFmt
open Go.ChangeShapes Go.WideShapes Go.ChangeAt Go.RowKit
open Go.ChangeMaps (open_string shut_string)
open Go.Extern.Stop Go.Stop Go.Extern
set_option linter.unusedVariables false

theorem own : ownKnob Tryf.prog.godebug = none := by kernel_rfl
theorem etNamed : Tryf.prog.globalNamed "errors.errorType" = some 0 := by kernel_rfl
/-- The dynamic type's name in the listed datum. -/
def rtName : String := match (Rows.laid_errors_errorType : DataW Unit) with | .iface n _ => n | _ => ""
theorem rtRow : (Tryf.prog.cutTypes.find? (·.1 == rtName)).map (·.2) = some 53 := by kernel_rfl
theorem oneRow : ((List.range 98).filter fun t => Tryf.prog.rowNamed t [101, 114, 114, 111, 114]) = [25] := by kernel_rfl
theorem typesSize : Tryf.prog.types.size = 98 := by kernel_rfl
theorem handle25 : typeHandle Tryf.prog 25 = .pointer (some ⟨1, 25, none⟩) := by kernel_rfl

/-- What the row's condition gives a walk: the variable's one cell. -/
theorem handle_of_laid {W : World} (h : laidMetH Tryf.prog [("errors.errorType", Rows.laid_errors_errorType)] W) : W.cell? ⟨0, 0, none⟩ = some (.iface 53 (.agg #[.pointer (some ⟨1, 25, none⟩)])) := by
  have h' : laidMet Tryf.prog [] W ∧ handlesMet Tryf.prog [("errors.errorType", Rows.laid_errors_errorType)] W := h
  obtain ⟨name, u, ty, e1, e2, e3, e4, e5⟩ := h'.2 _ (List.mem_singleton.2 rfl)
  have en : name = [101, 114, 114, 111, 114] := (Option.some.inj e1).symm
  subst en
  obtain rfl := Option.some.inj (rtRow.symm.trans e2)
  have hm : ty ∈ (List.range 98).filter fun t => Tryf.prog.rowNamed t [101, 114, 114, 111, 114] := List.mem_filter.2 ⟨List.mem_range.2 (by rw [← typesSize]; exact e3), e4⟩
  rw [oneRow] at hm
  obtain rfl := List.mem_singleton.1 hm
  rw [handle25] at e5
  simpa using World.var?_cell etNamed e5 0

set_option maxRecDepth 100000 in
theorem lifted (os : Os) (started : os.Started) (H : Type) (enc : TypeId × Value → H) :
    ReturnsInTold none {} Tryf.checked os 3 .any Input.okWide ((OpenSpec.ofChange Rows.fnOfStatuslessChainIsGeneralSpec).preRow enc Tryf.prog Tryf.f3 Rows.fnOfStatuslessChainIsGeneralRow.domain false Rows.fnOfStatuslessChainIsGeneralRow.laid)
      (fun F => ((OpenSpec.ofChange Rows.fnOfStatuslessChainIsGeneralSpec).at F).post enc Tryf.prog Tryf.f3 false true false false) (aloneAtReturn Tryf.prog) nothingAlways := by
  refine returnsInTold_of_row (C := Tryf.checked) (s := OpenSpec.ofChange Rows.fnOfStatuslessChainIsGeneralSpec) (by kernel_rfl) own started (by kernel_rfl) Tryf.func3
    (OpenSpec.witness_stopped_atRef (enc := enc) (C := Tryf.checked) false ({ World.holding Tryf.prog os ⟨#[], #[], []⟩ with heap := (World.holding Tryf.prog os ⟨#[], #[], []⟩).heap.modify 0 fun
      | .cells _ t frozen => .cells #[.iface 53 (.agg #[.pointer (some ⟨1, 25, none⟩)])] t frozen
      | o => o }) #[.string ⟨#[]⟩, .int .i64 0] rfl (by kernel_rfl) (by kernel_rfl) (by kernel_rfl)
      (OpenSpec.preRow_of_B rfl 8 (by kernel_rfl) (by kernel_rfl) (laidMetH_of_parts (laidMet_nil _ _) (by kernel_rfl)))) ?_
  intro F W base args ds gs before _ hF hval0 hW _ _ _ hL _
  have hval : ∀ (j : Nat) t v, Tryf.f3.params[j]? = some t → args[j]? = some v → Value.okWide Tryf.prog W .any base t v := hval0
  have hW' := hW
  obtain ⟨p, q, hA0, hV0, rfl, _, _⟩ := hW
  have hA : DataW.TrodAll enc Tryf.prog W 0 (fun _ => true) true Tryf.f3.params.toList args.toList ds p := hA0
  rw [Tryf.params3] at hA hval
  obtain ⟨v0, v1, d0, d1, p0, p1, rfl, rfl, rfl, h0, h1⟩ := trodAll_two hA
  obtain ⟨rfl, rfl⟩ := trodVars_none hV0
  obtain ⟨s, rfl, rfl, rfl, ws⟩ := open_string Tryf.underlying9 (hval 0 9 v0 rfl rfl) h0
  obtain ⟨n, rfl, rfl, rfl, wn⟩ := open_int Tryf.underlying3 (hval 1 3 v1 rfl rfl) h1
  clear hA0 hV0 hval0
  have hg := handle_of_laid hL
  have walk : Calls Tryf.prog 3 #[.string s, .int .i64 n] W fun e w' => e = .returned (.bool true) ∧ Below W.heap.size W w' := by
    have hs : s.size ≤ 9223372036854775807 := by simpa [maxLen] using ws
    by_cases h1 : 1048576 < s.size
    · exact top_big s n W hs h1
    by_cases h2 : 65536 < s.size
    · exact top_long s n W (by omega) h2
    by_cases h3 : n < 0
    · exact top_low s n W (by omega) h3
    by_cases h4 : 64 < n
    · exact top_high s n W (by omega) h3 h4
    obtain ⟨m, rfl⟩ := Int.eq_ofNat_of_zero_le (by omega : 0 ≤ n)
    exact top_mid F.told s m W hF (by omega) (by omega) hg
  refine walk.mono fun e W' ⟨he, bel⟩ => ?_
  subst he
  exact ⟨_, rfl, _, _, _, [], [], [], hW', trodAll_mk1 (shut_bool Tryf.underlying4 _), trodAll_mk2 (shut_string Tryf.underlying9 ws) (shut_int Tryf.underlying3 wn), rfl, bel.frame _, fun h => by cases h⟩

theorem laidOut : laidOutB Tryf.pinned.checked.prog = true := by kernel_rfl
theorem stopsAre : Tryf.pinned.checked.prog.stops = Rows.fnOfStatuslessChainIsGeneralRow.stops := by kernel_rfl
theorem stopKnobs : Tryf.pinned.checked.prog.stopKnobs = [] := by kernel_rfl
theorem quiet (os : Os) : Stop.quiet Tryf.pinned.checked.prog os := by
  intro k hk
  rw [stopKnobs] at hk
  cases hk

/-- ████ THE STATEMENT ████ -/
theorem proved : Rows.FnOfStatuslessChainIsGeneralToldSaid :=
  Claim7.holds_of_told_tied_any_at .later 3 Tryf.f3 _ _ [] (true, "e014bcdf0b0b0e777dcc01b768acfc2afed2bc242e17e5a53a3e01da7ef250df") true false [.handle] true (by kernel_rfl) rfl rfl rfl laidOut (by kernel_rfl) rfl ⟨rfl, rfl, rfl, rfl, rfl, rfl, rfl⟩ rfl rfl (by kernel_rfl) (by kernel_rfl) Tryf.func3 (by kernel_rfl)
    (of_decide_eq_true (by kernel_rfl)) (by unfold Func.isWrapper; rw [if_neg (of_decide_eq_false (by kernel_rfl))]; exact ⟨rfl, rfl⟩) stopsAre.symm rfl stopKnobs.symm (by kernel_rfl)
    (by kernel_rfl) (by kernel_rfl) (by kernel_rfl) (by kernel_rfl) (by kernel_rfl) (by kernel_rfl) (by kernel_rfl) (by kernel_rfl) (by kernel_rfl) rfl (by kernel_rfl) rfl rfl
    rfl rfl
    rfl (by kernel_rfl) (by kernel_rfl) (by kernel_rfl) (by decide) (by kernel_rfl) fnOfStatuslessChainIsGeneral_row_tie
    (OpenClaim.moreEntering_of (by kernel_rfl) (by kernel_rfl) (by kernel_rfl) (by kernel_rfl) (by kernel_rfl) (by kernel_rfl) (by kernel_rfl) (by kernel_rfl) (by kernel_rfl) (by kernel_rfl))
    ⟨_, WideRow.started_initial, quiet _⟩
    (fun os started _ H enc _ => lifted os started H enc)
#print axioms proved
end Go.Proofs.Qxb6616983aFmt
