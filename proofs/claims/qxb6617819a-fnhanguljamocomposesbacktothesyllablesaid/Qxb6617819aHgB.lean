import Derived.Test.Qxb6617819aHgA
namespace Go.Proofs.Qxb6617819a
open Go.RowKit
set_option linter.unusedVariables false

/-! ### zzJamoIndices (function 6) -/
theorem ind_two (a b l v : Int) (ha : IntKind.i32.wrap (a - 4352) = l) (hb : IntKind.i32.wrap (b - 4449) = v) (h0 : ¬ l < 0) (h1 : ¬ 19 ≤ l) (h2 : ¬ v < 0) (h3 : ¬ 21 ≤ v) (w : World) :
    Calls Try.prog 6 #[.agg #[.int .i32 a, .int .i32 b, .int .i32 0], .int .i64 2] w fun e w' => e = .returned (.tuple #[.int .i32 l, .int .i32 v, .int .i32 0, .bool true]) ∧ Below w.heap.size w w' := by
  go_enter Try.func6, Try.ntmps6
  go_wp2
  exact bodyPost_ret (v := .tuple #[.int .i32 l, .int .i32 v, .int .i32 0, .bool true]) (by simp [results, Try.results6, go_sem]) rfl ⟨rfl, (Below.refl _ _).alloc (Nat.le_refl _) _⟩

theorem ind_three (a b c l v t : Int) (ha : IntKind.i32.wrap (a - 4352) = l) (hb : IntKind.i32.wrap (b - 4449) = v) (hc : IntKind.i32.wrap (c - 4519) = t) (h0 : ¬ l < 0) (h1 : ¬ 19 ≤ l) (h2 : ¬ v < 0) (h3 : ¬ 21 ≤ v) (h4 : ¬ c ≤ 4519) (h5 : ¬ 4547 ≤ c) (w : World) :
    Calls Try.prog 6 #[.agg #[.int .i32 a, .int .i32 b, .int .i32 c], .int .i64 3] w fun e w' => e = .returned (.tuple #[.int .i32 l, .int .i32 v, .int .i32 t, .bool true]) ∧ Below w.heap.size w w' := by
  go_enter Try.func6, Try.ntmps6
  go_wp2
  go_quiet (fail)
  go_wp2
  exact bodyPost_ret (v := .tuple #[.int .i32 l, .int .i32 v, .int .i32 t, .bool true]) (by simp [results, Try.results6, go_sem]) rfl ⟨rfl, ((Below.refl _ w).alloc (Nat.le_refl _) _).trans ⟨rfl, rfl, rfl, Nat.le_refl _, fun _ _ => rfl⟩⟩

theorem ind_in (l v t : Int) (hl : 0 ≤ l ∧ l < 19) (hv : 0 ≤ v ∧ v < 21) (ht : 0 ≤ t ∧ t < 28) (w : World) :
    Calls Try.prog 6 #[.agg #[.int .i32 (4352 + l), .int .i32 (4449 + v), .int .i32 (tailOf t)], .int .i64 (countOf t)] w fun e w' => e = .returned (.tuple #[.int .i32 l, .int .i32 v, .int .i32 t, .bool true]) ∧ Below w.heap.size w w' := by
  have ha : IntKind.i32.wrap (4352 + l - 4352) = l := by rw [IntWalk.i32_left]; exact (wrap_in _ (by omega) (by omega)).trans (by omega)
  have hb : IntKind.i32.wrap (4449 + v - 4449) = v := by rw [IntWalk.i32_left]; exact (wrap_in _ (by omega) (by omega)).trans (by omega)
  have hc : IntKind.i32.wrap (4519 + t - 4519) = t := by rw [IntWalk.i32_left]; exact (wrap_in _ (by omega) (by omega)).trans (by omega)
  by_cases h : t = 0
  · subst h
    exact ind_two _ _ l v ha hb (by omega) (by omega) (by omega) (by omega) w
  · rw [show tailOf t = 4519 + t from if_neg h, show countOf t = 3 from if_neg h]
    exact ind_three _ _ _ l v t ha hb hc (by omega) (by omega) (by omega) (by omega) (by omega) (by omega) w
end Go.Proofs.Qxb6617819a
