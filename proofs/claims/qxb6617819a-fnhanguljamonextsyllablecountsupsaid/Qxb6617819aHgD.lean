import Derived.Test.Qxb6617819aHgC
namespace Go.Proofs.Qxb6617819a
open Go.RowKit
set_option linter.unusedVariables false

theorem kept0 {w1 w2 : World} {x y z : Value} {T : TypeId} (hb : Below (w1.alloc (Obj.cells #[x, y, z] T)).heap.size (w1.alloc (Obj.cells #[x, y, z] T)) w2) :
    w2.cell? ⟨w1.heap.size, 0, none⟩ = some x ∧ w2.cell? ⟨w1.heap.size, 1, none⟩ = some y ∧ w2.cell? ⟨w1.heap.size, 2, none⟩ = some z :=
  ⟨(hb.cell (p := ⟨w1.heap.size, 0, none⟩) (by simp)).trans (by simp [go_sem]), (hb.cell (p := ⟨w1.heap.size, 1, none⟩) (by simp)).trans (by simp [go_sem]), (hb.cell (p := ⟨w1.heap.size, 2, none⟩) (by simp)).trans (by simp [go_sem])⟩
theorem kept {w1 w2 : World} {x y z : Value} {T : TypeId} (hb : Below (w1.alloc (Obj.cells #[x, y, z] T)).heap.size (w1.alloc (Obj.cells #[x, y, z] T)) w2) :
    (∀ O, (w2.alloc O).cell? ⟨w1.heap.size, 0, none⟩ = some x) ∧ (∀ O, (w2.alloc O).cell? ⟨w1.heap.size, 1, none⟩ = some y) ∧ (∀ O, (w2.alloc O).cell? ⟨w1.heap.size, 2, none⟩ = some z) := by
  have hz := hb.size
  simp at hz
  obtain ⟨k0, k1, k2⟩ := kept0 hb
  exact ⟨fun O => (((Below.refl _ w2).alloc (Nat.le_refl _) O).cell (p := ⟨w1.heap.size, 0, none⟩) (by simp; omega)).trans k0, fun O => (((Below.refl _ w2).alloc (Nat.le_refl _) O).cell (p := ⟨w1.heap.size, 1, none⟩) (by simp; omega)).trans k1, fun O => (((Below.refl _ w2).alloc (Nat.le_refl _) O).cell (p := ⟨w1.heap.size, 2, none⟩) (by simp; omega)).trans k2⟩

/-! ### The second law (function 4) -/
theorem two_low (r : Int) (h : r < 44032) (w : World) :
    Calls Try.prog 4 #[.int .i32 r] w fun e w' => e = .returned (.bool true) ∧ Below w.heap.size w w' := by
  go_enter Try.func4, Try.ntmps4
  go_wp2
  go_ret
  exact ⟨rfl, Below.refl _ _⟩
theorem two_high (r : Int) (h0 : ¬ r < 44032) (h : 55203 ≤ r) (w : World) :
    Calls Try.prog 4 #[.int .i32 r] w fun e w' => e = .returned (.bool true) ∧ Below w.heap.size w w' := by
  go_enter Try.func4, Try.ntmps4
  go_wp2
  go_ret
  exact ⟨rfl, Below.refl _ _⟩

theorem two_tail (r r2 a b c n a2 b2 c2 n2 l v t l2 v2 t2 : Int) (hz : ∀ w : World, Calls Try.prog 5 #[.int .i32 r] w fun e w' => e = .returned (.tuple #[.agg #[.int .i32 a, .int .i32 b, .int .i32 c], .int .i64 n]) ∧ Below w.heap.size w w')
    (hz2 : ∀ w : World, Calls Try.prog 5 #[.int .i32 r2] w fun e w' => e = .returned (.tuple #[.agg #[.int .i32 a2, .int .i32 b2, .int .i32 c2], .int .i64 n2]) ∧ Below w.heap.size w w')
    (hi : ∀ w : World, Calls Try.prog 6 #[.agg #[.int .i32 a, .int .i32 b, .int .i32 c], .int .i64 n] w fun e w' => e = .returned (.tuple #[.int .i32 l, .int .i32 v, .int .i32 t, .bool true]) ∧ Below w.heap.size w w')
    (hi2 : ∀ w : World, Calls Try.prog 6 #[.agg #[.int .i32 a2, .int .i32 b2, .int .i32 c2], .int .i64 n2] w fun e w' => e = .returned (.tuple #[.int .i32 l, .int .i32 v, .int .i32 t2, .bool true]) ∧ Below w.heap.size w w')
    (h0 : ¬ r < 44032) (h : ¬ 55203 ≤ r) (er : IntKind.i32.wrap (r + 1) = r2) (e1 : IntKind.i32.wrap (t + 1) = t2) (n1 : ¬ t2 = 28) (w : World) :
    Calls Try.prog 4 #[.int .i32 r] w fun e w' => e = .returned (.bool true) ∧ Below w.heap.size w w' := by
  go_enter Try.func4, Try.ntmps4
  have mark5 : True := trivial
  have mark6 : True := trivial
  go_wp2_with (first | (go_at_call 5; first | (clear mark5; refine (hz _).mono ?_; rintro e w1 ⟨rfl, hb1⟩) | (refine (hz2 _).mono ?_; rintro e w2 ⟨rfl, hb2⟩; obtain ⟨hk0, hk1, hk2⟩ := kept hb2)) | (go_at_call 6; first | (clear mark6; refine (hi _).mono ?_; rintro e w3 ⟨rfl, hb3⟩; obtain ⟨hm0, hm1, hm2⟩ := kept0 hb3) | (refine (hi2 _).mono ?_; rintro e w4 ⟨rfl, hb4⟩)))
  go_ret
  have z1 := hb1.size
  have z2 := hb2.size
  have z3 := hb3.size
  simp at z2 z3
  exact ⟨by simp, ((((hb1.alloc z1 _).trans (hb2.mono (by simp; omega))).alloc (by omega) _).trans (hb3.mono (by simp; omega))).trans (hb4.mono (by omega))⟩

theorem two_vowel (r r2 a b c n a2 b2 c2 n2 l v t l2 v2 t2 : Int) (hz : ∀ w : World, Calls Try.prog 5 #[.int .i32 r] w fun e w' => e = .returned (.tuple #[.agg #[.int .i32 a, .int .i32 b, .int .i32 c], .int .i64 n]) ∧ Below w.heap.size w w')
    (hz2 : ∀ w : World, Calls Try.prog 5 #[.int .i32 r2] w fun e w' => e = .returned (.tuple #[.agg #[.int .i32 a2, .int .i32 b2, .int .i32 c2], .int .i64 n2]) ∧ Below w.heap.size w w')
    (hi : ∀ w : World, Calls Try.prog 6 #[.agg #[.int .i32 a, .int .i32 b, .int .i32 c], .int .i64 n] w fun e w' => e = .returned (.tuple #[.int .i32 l, .int .i32 v, .int .i32 t, .bool true]) ∧ Below w.heap.size w w')
    (hi2 : ∀ w : World, Calls Try.prog 6 #[.agg #[.int .i32 a2, .int .i32 b2, .int .i32 c2], .int .i64 n2] w fun e w' => e = .returned (.tuple #[.int .i32 l, .int .i32 v2, .int .i32 0, .bool true]) ∧ Below w.heap.size w w')
    (h0 : ¬ r < 44032) (h : ¬ 55203 ≤ r) (er : IntKind.i32.wrap (r + 1) = r2) (e1 : IntKind.i32.wrap (t + 1) = 28) (e2 : IntKind.i32.wrap (v + 1) = v2) (n1 : ¬ v2 = 21) (w : World) :
    Calls Try.prog 4 #[.int .i32 r] w fun e w' => e = .returned (.bool true) ∧ Below w.heap.size w w' := by
  go_enter Try.func4, Try.ntmps4
  have mark5 : True := trivial
  have mark6 : True := trivial
  go_wp2_with (first | (go_at_call 5; first | (clear mark5; refine (hz _).mono ?_; rintro e w1 ⟨rfl, hb1⟩) | (refine (hz2 _).mono ?_; rintro e w2 ⟨rfl, hb2⟩; obtain ⟨hk0, hk1, hk2⟩ := kept hb2)) | (go_at_call 6; first | (clear mark6; refine (hi _).mono ?_; rintro e w3 ⟨rfl, hb3⟩; obtain ⟨hm0, hm1, hm2⟩ := kept0 hb3) | (refine (hi2 _).mono ?_; rintro e w4 ⟨rfl, hb4⟩)))
  go_ret
  have z1 := hb1.size
  have z2 := hb2.size
  have z3 := hb3.size
  simp at z2 z3
  exact ⟨by simp, ((((hb1.alloc z1 _).trans (hb2.mono (by simp; omega))).alloc (by omega) _).trans (hb3.mono (by simp; omega))).trans (hb4.mono (by omega))⟩

theorem two_lead (r r2 a b c n a2 b2 c2 n2 l v t l2 v2 t2 : Int) (hz : ∀ w : World, Calls Try.prog 5 #[.int .i32 r] w fun e w' => e = .returned (.tuple #[.agg #[.int .i32 a, .int .i32 b, .int .i32 c], .int .i64 n]) ∧ Below w.heap.size w w')
    (hz2 : ∀ w : World, Calls Try.prog 5 #[.int .i32 r2] w fun e w' => e = .returned (.tuple #[.agg #[.int .i32 a2, .int .i32 b2, .int .i32 c2], .int .i64 n2]) ∧ Below w.heap.size w w')
    (hi : ∀ w : World, Calls Try.prog 6 #[.agg #[.int .i32 a, .int .i32 b, .int .i32 c], .int .i64 n] w fun e w' => e = .returned (.tuple #[.int .i32 l, .int .i32 v, .int .i32 t, .bool true]) ∧ Below w.heap.size w w')
    (hi2 : ∀ w : World, Calls Try.prog 6 #[.agg #[.int .i32 a2, .int .i32 b2, .int .i32 c2], .int .i64 n2] w fun e w' => e = .returned (.tuple #[.int .i32 l2, .int .i32 0, .int .i32 0, .bool true]) ∧ Below w.heap.size w w')
    (h0 : ¬ r < 44032) (h : ¬ 55203 ≤ r) (er : IntKind.i32.wrap (r + 1) = r2) (e1 : IntKind.i32.wrap (t + 1) = 28) (e2 : IntKind.i32.wrap (v + 1) = 21) (e3 : IntKind.i32.wrap (l + 1) = l2) (w : World) :
    Calls Try.prog 4 #[.int .i32 r] w fun e w' => e = .returned (.bool true) ∧ Below w.heap.size w w' := by
  go_enter Try.func4, Try.ntmps4
  have mark5 : True := trivial
  have mark6 : True := trivial
  go_wp2_with (first | (go_at_call 5; first | (clear mark5; refine (hz _).mono ?_; rintro e w1 ⟨rfl, hb1⟩) | (refine (hz2 _).mono ?_; rintro e w2 ⟨rfl, hb2⟩; obtain ⟨hk0, hk1, hk2⟩ := kept hb2)) | (go_at_call 6; first | (clear mark6; refine (hi _).mono ?_; rintro e w3 ⟨rfl, hb3⟩; obtain ⟨hm0, hm1, hm2⟩ := kept0 hb3) | (refine (hi2 _).mono ?_; rintro e w4 ⟨rfl, hb4⟩)))
  go_ret
  have z1 := hb1.size
  have z2 := hb2.size
  have z3 := hb3.size
  simp at z2 z3
  exact ⟨by simp, ((((hb1.alloc z1 _).trans (hb2.mono (by simp; omega))).alloc (by omega) _).trans (hb3.mono (by simp; omega))).trans (hb4.mono (by omega))⟩

/-- THE CALL AT A SYLLABLE, by its lead, vowel and tail. -/
theorem zz_in (r l v t : Int) (hl : 0 ≤ l ∧ l < 19) (hv : 0 ≤ v ∧ v < 21) (ht : 0 ≤ t ∧ t < 28) (hr : r = syl l v t) (w : World) :
    Calls Try.prog 5 #[.int .i32 r] w fun e w' => e = .returned (.tuple #[.agg #[.int .i32 (4352 + l), .int .i32 (4449 + v), .int .i32 (tailOf t)], .int .i64 (countOf t)]) ∧ Below w.heap.size w w' := by
  subst hr
  exact zz_pass _ _ _ _ _ w (fun w => jamo_in l v t hl hv ht w)

theorem two_any (r : Int) (hw : -2147483648 ≤ r ∧ r ≤ 2147483647) (w : World) :
    Calls Try.prog 4 #[.int .i32 r] w fun e w' => e = .returned (.bool true) ∧ Below w.heap.size w w' := by
  by_cases h0 : r < 44032
  · exact two_low r h0 w
  by_cases h1 : 55203 ≤ r
  · exact two_high r h0 h1 w
  obtain ⟨l, v, t, hl, hv, ht, hr⟩ := syl_of r (by omega) (by omega)
  have er : IntKind.i32.wrap (r + 1) = r + 1 := wrapped rfl (by omega) (by omega)
  have hr' : r = 44032 + (l * 588 + v * 28 + t) := hr
  by_cases ht1 : t = 27
  · by_cases hv1 : v = 20
    · exact two_lead r (r + 1) _ _ _ _ _ _ _ _ l v t (l + 1) 0 0 (zz_in r l v t hl hv ht hr) (zz_in (r + 1) (l + 1) 0 0 (by omega) (by omega) (by omega) (by unfold syl; omega)) (ind_in l v t hl hv ht) (ind_in (l + 1) 0 0 (by omega) (by omega) (by omega)) h0 h1 er (wrapped (by omega) (by omega) (by omega)) (wrapped (by omega) (by omega) (by omega)) (wrapped rfl (by omega) (by omega)) w
    · exact two_vowel r (r + 1) _ _ _ _ _ _ _ _ l v t 0 (v + 1) 0 (zz_in r l v t hl hv ht hr) (zz_in (r + 1) l (v + 1) 0 (by omega) (by omega) (by omega) (by unfold syl; omega)) (ind_in l v t hl hv ht) (ind_in l (v + 1) 0 (by omega) (by omega) (by omega)) h0 h1 er (wrapped (by omega) (by omega) (by omega)) (wrapped rfl (by omega) (by omega)) (by omega) w
  · exact two_tail r (r + 1) _ _ _ _ _ _ _ _ l v t 0 0 (t + 1) (zz_in r l v t hl hv ht hr) (zz_in (r + 1) l v (t + 1) (by omega) (by omega) (by omega) (by unfold syl; omega)) (ind_in l v t hl hv ht) (ind_in l v (t + 1) (by omega) (by omega) (by omega)) h0 h1 er (wrapped rfl (by omega) (by omega)) (by omega) w
end Go.Proofs.Qxb6617819a
