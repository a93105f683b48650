/-
  What both cards of this seat want: closed facts; slices that came in.
-/
import Derived.Test.Qxb6619025aFmtCards
import Derived.Test.Qxb6619025aFmtPdT
import Derived.ProofKit
import Derived.ShutString
import Derived.SliceStrings
import Derived.ChangeOld
import Derived.OpenShut
import Derived.Stop.Joined
import Derived.Stop.JoinedTold
import Derived.Stop.JoinedAt
import Derived.SevenToldRow
namespace Go.Proofs.Qxb6619025aFmt
open Go.ChangeShapes Go.WideShapes Go.ChangeAt Go.RowKit Go.Kit
open Go.ChangeMaps (open_string shut_string)
open Go.Extern.Stop Go.Stop Go.Extern
set_option linter.unusedVariables false

theorem own : ownKnob Tryf.prog.godebug = none := by kernel_rfl
theorem laidOut : laidOutB Tryf.pinned.checked.prog = true := by kernel_rfl
theorem stopKnobs : Tryf.pinned.checked.prog.stopKnobs = [] := by kernel_rfl
theorem quiet (os : Os) : Stop.quiet Tryf.pinned.checked.prog os := by
  intro k hk
  rw [stopKnobs] at hk
  cases hk
theorem cells3 : Tryf.prog.cellsOf 3 = 1 := by kernel_rfl
theorem cells9 : Tryf.prog.cellsOf 9 = 1 := by kernel_rfl
theorem add_pl (b off i : Nat) : (⟨b, off, none⟩ : Addr).add i = ⟨b, off + i, none⟩ := by unfold Addr.add; split <;> simp_all

/-- A slice of ints that came in. -/
theorem ints_in {H : Type} {enc : TypeId × Value → H} {W : World} {ao : Option Addr} {len cap : Nat} {d : DataW H} {p : List MemPlace} (h : DataW.Trod enc Tryf.prog W 0 (fun _ => true) true 22 (.slice ao len cap) d p) :
    ∃ (nb noff : Nat) (nz : Nat → Int), len ≤ 9223372036854775807 ∧ (0 < len → ao = some ⟨nb, noff, none⟩) ∧ (∀ i, i < len → W.cell? ⟨nb, noff + i, none⟩ = some (.int .i64 (nz i))) ∧ ∀ i, (Lit.int .i64 (nz i)).wf = true := by
  obtain ⟨fuel, hf⟩ := h
  rcases open_ints Tryf.underlying22 Tryf.underlying3 cells3 hf with ⟨hcs, _⟩ | ⟨x, l, c, zs, hcs, _, hl, hm, hz, _, hcell, hwz⟩
  · simp [Value.cells] at hcs
    obtain ⟨rfl, rfl, rfl⟩ := hcs
    exact ⟨0, 0, fun _ => 0, by omega, fun h => by omega, fun i hi => by omega, fun _ => (by decide : (Lit.int .i64 0).wf = true)⟩
  · simp [Value.cells] at hcs
    obtain ⟨rfl, rfl, rfl⟩ := hcs
    have hz' : zs.length = cap := by simpa using hz
    have hm' : cap ≤ 9223372036854775807 := by simpa [maxLen] using hm
    obtain ⟨b, o, sp⟩ := x
    have hsp : 0 < len → sp = none := fun h => by simpa [Addr.add] using World.cell?_spot (hcell 0 (by omega))
    refine ⟨b, o, fun i => zs.getD i 0, by omega, fun h => by rw [hsp h], fun i hi => ?_, fun i => ?_⟩
    · have h := hcell i (by omega)
      obtain rfl := hsp (by omega)
      rw [add_pl] at h
      exact h
    · by_cases hi : i < zs.length
      · exact hwz _ (by simp [hi])
      · have e : zs.getD i 0 = 0 := by simp [hi]
        show (Lit.int .i64 (zs.getD i 0)).wf = true
        rw [e]; decide
/-- A slice of strings that came in. -/
theorem strs_in {H : Type} {enc : TypeId × Value → H} {W : World} {ao : Option Addr} {len cap : Nat} {d : DataW H} {p : List MemPlace} (h : DataW.Trod enc Tryf.prog W 0 (fun _ => true) true 23 (.slice ao len cap) d p) :
    ∃ (b off : Nat) (f : Nat → ByteArray), len ≤ 9223372036854775807 ∧ (0 < len → ao = some ⟨b, off, none⟩) ∧ (∀ i, i < len → W.cell? ⟨b, off + i, none⟩ = some (.string (f i))) := by
  obtain ⟨fuel, hf⟩ := h
  rcases open_strings Tryf.underlying23 Tryf.underlying9 cells9 hf with ⟨hcs, _⟩ | ⟨x, l, c, ss, hcs, _, hl, hm, hz, _, hcell, _⟩
  · simp [Value.cells] at hcs
    obtain ⟨rfl, rfl, rfl⟩ := hcs
    exact ⟨0, 0, fun _ => ⟨#[]⟩, by omega, fun h => by omega, fun i hi => by omega⟩
  · simp [Value.cells] at hcs
    obtain ⟨rfl, rfl, rfl⟩ := hcs
    have hz' : ss.length = cap := by simpa using hz
    have hm' : cap ≤ 9223372036854775807 := by simpa [maxLen] using hm
    obtain ⟨b, o, sp⟩ := x
    have hsp : 0 < len → sp = none := fun h => by simpa [Addr.add] using World.cell?_spot (hcell 0 (by omega))
    refine ⟨b, o, fun i => ss.getD i ByteArray.empty, by omega, fun h => by rw [hsp h], fun i hi => ?_⟩
    have h := hcell i (by omega)
    obtain rfl := hsp (by omega)
    rw [add_pl] at h
    exact h

end Go.Proofs.Qxb6619025aFmt
