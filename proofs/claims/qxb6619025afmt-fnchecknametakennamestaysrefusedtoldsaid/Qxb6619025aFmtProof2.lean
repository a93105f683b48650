/-
  'Rows.FnCheckNameTakenNameStaysRefusedToldSaid', proved: the told card.
-/
import Derived.Test.Qxb6619025aFmtCards
import Derived.Test.Qxb6619025aFmtPdU
import Derived.Test.Qxb6619025aFmtPdL
import Derived.ProofKit
import Derived.ShutString
import Derived.SliceStrings
import Derived.ChangeOld
import Derived.OpenShut
import Derived.Stop.Joined
import Derived.Stop.JoinedTold
import Derived.Stop.JoinedAt
import Derived.SevenToldRow
namespace Go.Proofs.Qxb6619025aFmt
open Go.ChangeShapes Go.WideShapes Go.ChangeAt Go.RowKit Go.Kit
open Go.ChangeMaps (open_string shut_string)
open Go.Extern.Stop Go.Stop Go.Extern
set_option linter.unusedVariables false

set_option maxRecDepth 100000 in
theorem lifted2 (os : Os) (started : os.Started) (H : Type) (enc : TypeId × Value → H) :
    ReturnsInTold none {} Tryf.checked os 4 .any Input.okWide ((OpenSpec.ofChange Rows.fnCheckNameTakenNameStaysRefusedSpec).preRow enc Tryf.prog Tryf.f4 Rows.fnCheckNameTakenNameStaysRefusedRow.domain false Rows.fnCheckNameTakenNameStaysRefusedRow.laid)
      (fun F => ((OpenSpec.ofChange Rows.fnCheckNameTakenNameStaysRefusedSpec).at F).post enc Tryf.prog Tryf.f4 false true false false) (aloneAtReturn Tryf.prog) nothingAlways := by
  refine returnsInTold_of_row (C := Tryf.checked) (s := OpenSpec.ofChange Rows.fnCheckNameTakenNameStaysRefusedSpec) (by kernel_rfl) own started (by kernel_rfl) Tryf.func4
    (OpenSpec.witness_stopped (enc := enc) (C := Tryf.checked) false ⟨#[], #[.string ⟨#[]⟩, .string ⟨#[]⟩, .slice none 0 0, .slice none 0 0, .int .i64 0, .int .i64 0, .string ⟨#[]⟩], []⟩ 8 (by kernel_rfl) (by kernel_rfl) (by kernel_rfl) (by kernel_rfl)) ?_
  intro F W base args ds gs before _ hF hval0 hW _ _ _ _ _
  have hval : ∀ (j : Nat) t v, Tryf.f4.params[j]? = some t → args[j]? = some v → Value.okWide Tryf.prog W .any base t v := hval0
  have hW' := hW
  obtain ⟨p, q, hA0, hV0, rfl, _, _⟩ := hW
  have hA : DataW.TrodAll enc Tryf.prog W 0 (fun _ => true) true Tryf.f4.params.toList args.toList ds p := hA0
  rw [Tryf.params4] at hA hval
  obtain ⟨v0, vs0, d0, ds0, p0, q0, hargs, rfl, rfl, h0, r0⟩ := trodAll_cons hA
  obtain ⟨v1, vs1, d1, ds1, p1, q1, rfl, rfl, rfl, h1, r1⟩ := trodAll_cons r0
  obtain ⟨v2, vs2, d2, ds2, p2, q2, rfl, rfl, rfl, h2, r2⟩ := trodAll_cons r1
  obtain ⟨v3, vs3, d3, ds3, p3, q3, rfl, rfl, rfl, h3, r3⟩ := trodAll_cons r2
  obtain ⟨v4, vs4, d4, ds4, p4, q4, rfl, rfl, rfl, h4, r4⟩ := trodAll_cons r3
  obtain ⟨v5, vs5, d5, ds5, p5, q5, rfl, rfl, rfl, h5, r5⟩ := trodAll_cons r4
  obtain ⟨v6, vs6, d6, ds6, p6, q6, rfl, rfl, rfl, h6, r6⟩ := trodAll_cons r5
  obtain ⟨rfl, rfl, rfl⟩ := trodAll_nil r6
  obtain rfl : args = #[v0, v1, v2, v3, v4, v5, v6] := by cases args; simp_all
  obtain ⟨rfl, rfl⟩ := trodVars_none hV0
  obtain ⟨s0, rfl, rfl, rfl, ws0⟩ := open_string Tryf.underlying9 (hval 0 9 v0 rfl rfl) h0
  obtain ⟨s1, rfl, rfl, rfl, ws1⟩ := open_string Tryf.underlying9 (hval 1 9 v1 rfl rfl) h1
  obtain ⟨no, nl, nc, rfl⟩ := okWide_slice Tryf.underlying22 (hval 2 22 v2 rfl rfl)
  obtain ⟨ao, n, c, rfl⟩ := okWide_slice Tryf.underlying23 (hval 3 23 v3 rfl rfl)
  obtain ⟨n1, rfl, rfl, rfl, wn1⟩ := open_int Tryf.underlying3 (hval 4 3 v4 rfl rfl) h4
  obtain ⟨n2, rfl, rfl, rfl, wn2⟩ := open_int Tryf.underlying3 (hval 5 3 v5 rfl rfl) h5
  obtain ⟨s6, rfl, rfl, rfl, ws6⟩ := open_string Tryf.underlying9 (hval 6 9 v6 rfl rfl) h6
  have lt2 : ∀ x ∈ p2, x.block < W.heap.size := by obtain ⟨m, hm⟩ := h2; exact DataW.trod_lt m _ _ _ hm
  have lt3 : ∀ x ∈ p3, x.block < W.heap.size := by obtain ⟨m, hm⟩ := h3; exact DataW.trod_lt m _ _ _ hm
  obtain ⟨nb, noff, nz, hnl, hna, hnc, hnw⟩ := ints_in h2
  obtain ⟨b, off, f, hsl, hsa, hsc⟩ := strs_in h3
  clear hA0 hV0 hval0
  have hI : Ins W no nb noff nl nz ao b off n f := ⟨hna, hnc, hsa, hsc⟩
  have walk : Calls Tryf.prog 4 #[.string s0, .string s1, .slice no nl nc, .slice ao n c, .int .i64 n1, .int .i64 n2, .string s6] W fun e w' => e = .returned (.bool true) ∧ Below W.heap.size W w' := by
    by_cases hg : 65536 < s0.size ∨ 65536 < s1.size ∨ 65536 < s6.size ∨ 4096 < nl ∨ 4096 < n ∨ nl ≠ n
    · exact top4_big s0 s1 s6 n1 n2 no nb noff nl nc nz ao b off n c f W hI hsl hg
    · obtain rfl : nl = n := by omega
      exact top4_mid F.told s0 s1 s6 n1 n2 no nb noff nc nz ao b off nl c f W hF hI (by omega) (by omega) (by omega) (by omega) (fun i _ => t_size F s1 (nz i) (by omega) (hnw i)) (t_size F s1 n1 (by omega) wn1) (t_size F s1 n2 (by omega) wn2)
  refine walk.mono fun e W' ⟨he, bel⟩ => ?_
  subst he
  exact ⟨_, rfl, _, _, _, [], _, [], hW', trodAll_mk1 (shut_bool Tryf.underlying4 _), (trodAll_cons_mk (shut_string Tryf.underlying9 ws0) (trodAll_cons_mk (shut_string Tryf.underlying9 ws1) (trodAll_cons_mk (Below.trod laidOut (by kernel_rfl) (of_decide_eq_true (by kernel_rfl)) h2 bel lt2) (trodAll_cons_mk (Below.trod laidOut (by kernel_rfl) (of_decide_eq_true (by kernel_rfl)) h3 bel lt3) (trodAll_cons_mk (shut_int Tryf.underlying3 wn1) (trodAll_cons_mk (shut_int Tryf.underlying3 wn2) (trodAll_cons_mk (shut_string Tryf.underlying9 ws6) trodAll_mk0))))))), rfl, bel.frame _, fun h => by cases h⟩

theorem stopsAre2 : Rows.fnCheckNameTakenNameStaysRefusedRow.stops = Tryf.pinned.checked.prog.stops := by kernel_rfl

/-- ████ THE STATEMENT ████ -/
theorem proved2 : Rows.FnCheckNameTakenNameStaysRefusedToldSaid :=
  Claim7.holds_of_told_any 4 Tryf.f4 _ _ [] (true, "c852625cda4b5238830617176ed8af346e2ea93c9660c3647bb1bc48db3f2fcd") false false (by kernel_rfl) rfl rfl rfl laidOut (by kernel_rfl) rfl ⟨rfl, rfl, rfl, rfl, rfl, rfl, rfl⟩ rfl rfl (by kernel_rfl) (by kernel_rfl) Tryf.func4 (by kernel_rfl)
    (of_decide_eq_true (by kernel_rfl)) (by unfold Func.isWrapper; rw [if_neg (of_decide_eq_false (by kernel_rfl))]; exact ⟨rfl, rfl⟩) stopsAre2 rfl stopKnobs.symm (by kernel_rfl)
    (by kernel_rfl) (by kernel_rfl) (by kernel_rfl) (by kernel_rfl) (by kernel_rfl) (by kernel_rfl) (by kernel_rfl) (by kernel_rfl) (by kernel_rfl) rfl (by kernel_rfl) rfl rfl
    rfl rfl
    rfl (by kernel_rfl) (by kernel_rfl) (by kernel_rfl) (by decide) (by kernel_rfl)
    (OpenClaim.moreEntering_of (by kernel_rfl) (by kernel_rfl) (by kernel_rfl) (by kernel_rfl) (by kernel_rfl) (by kernel_rfl) (by kernel_rfl) (by kernel_rfl) (by kernel_rfl) (by kernel_rfl))
    ⟨_, WideRow.started_initial, quiet _⟩
    (fun os started _ H enc _ => lifted2 os started H enc)
#print axioms proved2
end Go.Proofs.Qxb6619025aFmt
