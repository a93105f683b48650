import Derived.Test.Qxb6617819aHgB
namespace Go.Proofs.Qxb6617819a
open Go.RowKit
set_option linter.unusedVariables false

/-! ### The first law (function 3) -/
theorem one_low (r : Int) (hz : ∀ w : World, Calls Try.prog 5 #[.int .i32 r] w fun e w' => e = .returned (.tuple #[.agg #[.int .i32 0, .int .i32 0, .int .i32 0], .int .i64 0]) ∧ Below w.heap.size w w') (h : r < 44032) (w : World) :
    Calls Try.prog 3 #[.int .i32 r] w fun e w' => e = .returned (.bool true) ∧ Below w.heap.size w w' := by
  go_enter Try.func3, Try.ntmps3
  go_wp2_with (go_at_call 5; refine (hz _).mono ?_; rintro e w1 ⟨rfl, hb1⟩)
  go_ret
  exact ⟨rfl, hb1.alloc hb1.size _⟩
theorem one_high (r : Int) (hz : ∀ w : World, Calls Try.prog 5 #[.int .i32 r] w fun e w' => e = .returned (.tuple #[.agg #[.int .i32 0, .int .i32 0, .int .i32 0], .int .i64 0]) ∧ Below w.heap.size w w') (h0 : ¬ r < 44032) (h : 55204 ≤ r) (w : World) :
    Calls Try.prog 3 #[.int .i32 r] w fun e w' => e = .returned (.bool true) ∧ Below w.heap.size w w' := by
  go_enter Try.func3, Try.ntmps3
  go_wp2_with (go_at_call 5; refine (hz _).mono ?_; rintro e w1 ⟨rfl, hb1⟩)
  go_ret
  exact ⟨rfl, hb1.alloc hb1.size _⟩
theorem one_in (r a b c n l v t p q s u : Int) (hz : ∀ w : World, Calls Try.prog 5 #[.int .i32 r] w fun e w' => e = .returned (.tuple #[.agg #[.int .i32 a, .int .i32 b, .int .i32 c], .int .i64 n]) ∧ Below w.heap.size w w')
    (hi : ∀ w : World, Calls Try.prog 6 #[.agg #[.int .i32 a, .int .i32 b, .int .i32 c], .int .i64 n] w fun e w' => e = .returned (.tuple #[.int .i32 l, .int .i32 v, .int .i32 t, .bool true]) ∧ Below w.heap.size w w')
    (h0 : ¬ r < 44032) (h : ¬ 55204 ≤ r) (e1 : IntKind.i32.wrap (l * 21) = p) (e2 : IntKind.i32.wrap (p + v) = q) (e3 : IntKind.i32.wrap (q * 28) = s) (e4 : IntKind.i32.wrap (44032 + s) = u) (e5 : IntKind.i32.wrap (u + t) = r) (w : World) :
    Calls Try.prog 3 #[.int .i32 r] w fun e w' => e = .returned (.bool true) ∧ Below w.heap.size w w' := by
  go_enter Try.func3, Try.ntmps3
  go_wp2_with (first | (go_at_call 5; refine (hz _).mono ?_; rintro e w1 ⟨rfl, hb1⟩) | (go_at_call 6; refine (hi _).mono ?_; rintro e w2 ⟨rfl, hb2⟩))
  go_ret
  exact ⟨by simp, (hb1.alloc hb1.size _).trans (hb2.mono (by have := hb1.size; simp; omega))⟩

theorem syl_of (r : Int) (h0 : 44032 ≤ r) (h1 : r < 55204) : ∃ l v t, (0 ≤ l ∧ l < 19) ∧ (0 ≤ v ∧ v < 21) ∧ (0 ≤ t ∧ t < 28) ∧ r = syl l v t :=
  ⟨(r - 44032) / 588, (r - 44032) % 588 / 28, (r - 44032) % 28, by omega, by omega, by omega, by unfold syl; omega⟩

theorem wrapped {x y : Int} (h : x = y) (h0 : -2147483648 ≤ y) (h1 : y ≤ 2147483647) : IntKind.i32.wrap x = y := by
  subst h; rw [IntWalk.i32_left]; exact wrap_in _ h0 h1

theorem one_any (r : Int) (hw : -2147483648 ≤ r ∧ r ≤ 2147483647) (w : World) :
    Calls Try.prog 3 #[.int .i32 r] w fun e w' => e = .returned (.bool true) ∧ Below w.heap.size w w' := by
  by_cases h0 : r < 44032
  · exact one_low r (fun w => zz_pass r 0 0 0 0 w (jamo_out r hw (.inl h0))) h0 w
  by_cases h1 : 55204 ≤ r
  · exact one_high r (fun w => zz_pass r 0 0 0 0 w (jamo_out r hw (.inr h1))) h0 h1 w
  obtain ⟨l, v, t, hl, hv, ht, hr⟩ := syl_of r (by omega) (by omega)
  refine one_in r (4352 + l) (4449 + v) (tailOf t) (countOf t) l v t (l * 21) (l * 21 + v) (l * 588 + v * 28) (44032 + (l * 588 + v * 28)) (fun w => zz_pass _ _ _ _ _ w (fun w => ?_)) (fun w => ind_in l v t hl hv ht w) h0 h1 (wrapped rfl (by omega) (by omega)) (wrapped rfl (by omega) (by omega)) (wrapped (by omega) (by omega) (by omega)) (wrapped rfl (by omega) (by omega)) (wrapped (by rw [hr]; unfold syl; omega) (by omega) (by omega)) w
  rw [hr]; exact jamo_in l v t hl hv ht w
end Go.Proofs.Qxb6617819a
