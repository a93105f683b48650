import Derived.Test.Qxb6617819aRows
import Derived.WalkKit
import Derived.WalkSpells
import Derived.StillTactics
import Derived.RegionTactic
import Derived.Deep.QuietTactic
import Derived.BigQuiet
import Derived.Below
namespace Go.Proofs.Qxb6617819a
open Go.RowKit
set_option linter.unusedVariables false

theorem wrap_in (x : Int) (h0 : -2147483648 ≤ x) (h1 : x ≤ 2147483647) : wrap32 x = x := by
  unfold wrap32; omega

/-! ### hangulJamo (function 7), by cases -/
/-- A SYLLABLE WITHOUT A TAIL. -/
theorem jamo_two (r s m l v : Int) (hr : IntKind.i32.wrap (r - 44032) = s) (h0 : ¬ s < 0) (h1 : ¬ 11172 ≤ s) (hl : s.tdiv 588 = l) (hm : s.tmod 588 = m) (hv : m.tdiv 28 = v) (ht : s.tmod 28 = 0)
    (xl : wrap32 l = l) (xv : wrap32 v = v) (wl : wrap32 (4352 + l) = 4352 + l) (wv : wrap32 (4449 + v) = 4449 + v) (w : World) :
    Calls Try.prog 7 #[.int .i32 r] w fun e w' => e = .returned (.tuple #[.agg #[.int .i32 (4352 + l), .int .i32 (4449 + v), .int .i32 0], .int .i64 2]) ∧ Below w.heap.size w w' := by
  go_enter Try.func7, Try.ntmps7
  go_wp2
  exact bodyPost_ret (v := .tuple #[.agg #[.int .i32 (4352 + l), .int .i32 (4449 + v), .int .i32 0], .int .i64 2]) (by simp [results, Try.results7, go_sem]) rfl ⟨rfl, (Below.refl _ _).alloc (Nat.le_refl _) _⟩

/-- A SYLLABLE WITH A TAIL. -/
theorem jamo_three (r s m l v t : Int) (hr : IntKind.i32.wrap (r - 44032) = s) (h0 : ¬ s < 0) (h1 : ¬ 11172 ≤ s) (hl : s.tdiv 588 = l) (hm : s.tmod 588 = m) (hv : m.tdiv 28 = v) (ht : s.tmod 28 = t) (ht0 : ¬ t = 0)
    (xl : wrap32 l = l) (xv : wrap32 v = v) (wl : wrap32 (4352 + l) = 4352 + l) (wv : wrap32 (4449 + v) = 4449 + v) (wt : wrap32 (4519 + t) = 4519 + t) (w : World) :
    Calls Try.prog 7 #[.int .i32 r] w fun e w' => e = .returned (.tuple #[.agg #[.int .i32 (4352 + l), .int .i32 (4449 + v), .int .i32 (4519 + t)], .int .i64 3]) ∧ Below w.heap.size w w' := by
  go_enter Try.func7, Try.ntmps7
  go_wp2
  exact bodyPost_ret (v := .tuple #[.agg #[.int .i32 (4352 + l), .int .i32 (4449 + v), .int .i32 (4519 + t)], .int .i64 3]) (by simp [results, Try.results7, go_sem]) rfl ⟨rfl, (Below.refl _ _).alloc (Nat.le_refl _) _⟩

/-- NO SYLLABLE. -/
theorem jamo_low (r s : Int) (hr : IntKind.i32.wrap (r - 44032) = s) (h0 : s < 0) (w : World) :
    Calls Try.prog 7 #[.int .i32 r] w fun e w' => e = .returned (.tuple #[.agg #[.int .i32 0, .int .i32 0, .int .i32 0], .int .i64 0]) ∧ Below w.heap.size w w' := by
  go_enter Try.func7, Try.ntmps7
  go_wp2
  exact bodyPost_ret (v := .tuple #[.agg #[.int .i32 0, .int .i32 0, .int .i32 0], .int .i64 0]) (by simp [results, Try.results7, go_sem]) rfl ⟨rfl, (Below.refl _ _).alloc (Nat.le_refl _) _⟩

theorem jamo_high (r s : Int) (hr : IntKind.i32.wrap (r - 44032) = s) (h0 : ¬ s < 0) (h1 : 11172 ≤ s) (w : World) :
    Calls Try.prog 7 #[.int .i32 r] w fun e w' => e = .returned (.tuple #[.agg #[.int .i32 0, .int .i32 0, .int .i32 0], .int .i64 0]) ∧ Below w.heap.size w w' := by
  go_enter Try.func7, Try.ntmps7
  go_wp2
  exact bodyPost_ret (v := .tuple #[.agg #[.int .i32 0, .int .i32 0, .int .i32 0], .int .i64 0]) (by simp [results, Try.results7, go_sem]) rfl ⟨rfl, (Below.refl _ _).alloc (Nat.le_refl _) _⟩

/-- THE RUNE OF THE LEAD l, THE VOWEL v, THE TAIL t. -/
def syl (l v t : Int) : Int := 44032 + (l * 588 + v * 28 + t)
/-- THE TAIL's JAMO, AND HOW MANY JAMO. -/
def tailOf (t : Int) : Int := if t = 0 then 0 else 4519 + t
def countOf (t : Int) : Int := if t = 0 then 2 else 3

theorem jamo_in (l v t : Int) (hl : 0 ≤ l ∧ l < 19) (hv : 0 ≤ v ∧ v < 21) (ht : 0 ≤ t ∧ t < 28) (w : World) :
    Calls Try.prog 7 #[.int .i32 (syl l v t)] w fun e w' => e = .returned (.tuple #[.agg #[.int .i32 (4352 + l), .int .i32 (4449 + v), .int .i32 (tailOf t)], .int .i64 (countOf t)]) ∧ Below w.heap.size w w' := by
  have hr : IntKind.i32.wrap (syl l v t - 44032) = l * 588 + v * 28 + t := by
    have h := wrap_in (syl l v t - 44032) (by unfold syl; omega) (by unfold syl; omega)
    have e : syl l v t - 44032 = l * 588 + v * 28 + t := by unfold syl; omega
    exact (IntWalk.i32_left _).trans (h.trans e)
  have e1 : (l * 588 + v * 28 + t).tdiv 588 = l := by rw [Int.tdiv_eq_ediv_of_nonneg (by omega)]; omega
  have e2 : (l * 588 + v * 28 + t).tmod 588 = v * 28 + t := by rw [Int.tmod_eq_emod_of_nonneg (by omega)]; omega
  have e3 : (v * 28 + t).tdiv 28 = v := by rw [Int.tdiv_eq_ediv_of_nonneg (by omega)]; omega
  have e4 : (l * 588 + v * 28 + t).tmod 28 = t := by rw [Int.tmod_eq_emod_of_nonneg (by omega)]; omega
  by_cases h : t = 0
  · subst h
    exact jamo_two _ _ _ l v hr (by omega) (by omega) e1 e2 e3 e4 (wrap_in _ (by omega) (by omega)) (wrap_in _ (by omega) (by omega)) (wrap_in _ (by omega) (by omega)) (wrap_in _ (by omega) (by omega)) w
  · rw [show tailOf t = 4519 + t from if_neg h, show countOf t = 3 from if_neg h]
    exact jamo_three _ _ _ l v t hr (by omega) (by omega) e1 e2 e3 e4 h (wrap_in _ (by omega) (by omega)) (wrap_in _ (by omega) (by omega)) (wrap_in _ (by omega) (by omega)) (wrap_in _ (by omega) (by omega)) (wrap_in _ (by omega) (by omega)) w

theorem jamo_out (r : Int) (hw : -2147483648 ≤ r ∧ r ≤ 2147483647) (ho : r < 44032 ∨ 55204 ≤ r) (w : World) :
    Calls Try.prog 7 #[.int .i32 r] w fun e w' => e = .returned (.tuple #[.agg #[.int .i32 0, .int .i32 0, .int .i32 0], .int .i64 0]) ∧ Below w.heap.size w w' := by
  have hr : IntKind.i32.wrap (r - 44032) = wrap32 (r - 44032) := IntWalk.i32_left _
  have hb : wrap32 (r - 44032) < 0 ∨ 11172 ≤ wrap32 (r - 44032) := by
    simp only [wrap32]; omega
  by_cases h : wrap32 (r - 44032) < 0
  · exact jamo_low r _ hr h w
  · exact jamo_high r _ hr h (by omega) w

/-! ### ZZhangulJamo (function 5) passes on -/
theorem zz_pass (r a b c n : Int) (w : World) (h : ∀ w : World, Calls Try.prog 7 #[.int .i32 r] w fun e w' => e = .returned (.tuple #[.agg #[.int .i32 a, .int .i32 b, .int .i32 c], .int .i64 n]) ∧ Below w.heap.size w w') :
    Calls Try.prog 5 #[.int .i32 r] w fun e w' => e = .returned (.tuple #[.agg #[.int .i32 a, .int .i32 b, .int .i32 c], .int .i64 n]) ∧ Below w.heap.size w w' := by
  go_enter Try.func5, Try.ntmps5
  go_wp2_with (go_at_call 7; refine (h _).mono ?_; rintro e w1 ⟨rfl, hb1⟩; have hcc : ∀ o, w1.cell? ⟨w.heap.size, o, none⟩ = (w.alloc (Obj.cells #[.int .i32 0, .int .i32 0, .int .i32 0] 22)).cell? ⟨w.heap.size, o, none⟩ := (fun o => hb1.cell (p := ⟨w.heap.size, o, none⟩) (by simp)); have hff : ∀ o, w1.frozen? ⟨w.heap.size, o, none⟩ = (w.alloc (Obj.cells #[.int .i32 0, .int .i32 0, .int .i32 0] 22)).frozen? ⟨w.heap.size, o, none⟩ := (fun o => hb1.frozen (p := ⟨w.heap.size, o, none⟩) (by simp)))
  exact bodyPost_ret (v := .tuple #[.agg #[.int .i32 a, .int .i32 b, .int .i32 c], .int .i64 n]) (by simp [results, Try.results5, go_sem, hcc]) rfl ⟨rfl, (((((Below.refl _ _).alloc (Nat.le_refl _) _).trans (hb1.mono (by simp))).setCell (by simp) _).setCell (by simp) _).setCell (by simp) _⟩
end Go.Proofs.Qxb6617819a
