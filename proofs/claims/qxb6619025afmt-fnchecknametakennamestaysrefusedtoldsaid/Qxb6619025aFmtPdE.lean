import Derived.Test.Qxb6619025aFmtPdD
namespace Go.Proofs.Qxb6619025aFmt
open Go.RowKit
set_option linter.unusedVariables false

/-- A Key comes back. -/
def IsKey (e : Ending) : Prop := ∃ a l c s, e = .returned (.agg #[.slice a l c, .string s])
def ix (n : Int) : Int := if 0 < n then 0 else -1
/-- slices.IndexFunc over a path of one step, at step.isElement. -/
theorem indexF_any (g cap : Nat) (n : Int) (w : World) (h : StepAt w g cap n) :
    Calls Tryf.prog 30 #[.slice (some ⟨g, 0, none⟩) 1 cap, .func (.func 27) #[] #[]] w fun e w' => e = .returned (.int .i64 (ix n)) ∧ Below w.heap.size w w' := by
  go_enter Tryf.func30, Tryf.ntmps30
  go_wp2
  go_loopw [8] (fun i wr => ∃ k : Nat, k ≤ 1 ∧ i = .int .i64 k ∧ (k = 1 → ¬ 0 < n) ∧ Below w.heap.size w wr) (fun i _ => 1 - (intOf i).toNat)
  case atStart => exact ⟨0, by omega, rfl, by omega, Below.refl _ _⟩
  case round =>
    obtain ⟨k, hk, rfl, hn, hbel⟩ := hrel
    rcases (by omega : k = 0 ∨ k = 1) with rfl | rfl
    · have h' := h.keep hbel
      have c0 := h'.c0
      have c1 := h'.c1
      clear hn
      by_cases hp : 0 < n
      · go_wp2_with (go_at_call 27; refine (isElem_any _ _ _).mono ?_; rintro e w2 ⟨rfl, hb2⟩)
        go_ret
        exact ⟨ret_int (by simp [ix, hp]), hbel.trans (hb2.mono hbel.size)⟩
      · go_wp2_with (go_at_call 27; refine (isElem_any _ _ _).mono ?_; rintro e w2 ⟨rfl, hb2⟩)
        go_roundw
        case rel => exact ⟨1, by omega, rfl, fun _ => by omega, hbel.trans (hb2.mono hbel.size)⟩
        case measure => simp [intOf]
    · have hp := hn rfl
      clear hn
      go_wp2
      go_ret
      exact ⟨ret_int (by simp [ix]; omega), hbel⟩
theorem ix_ge (n : Int) : decide (0 ≤ ix n) = decide (0 < n) := by
  unfold ix
  by_cases h : 0 < n <;> simp [h]
/-- slices.ContainsFunc over a path of one step, at step.isElement. -/
theorem containsF_any (g cap : Nat) (n : Int) (w : World) (h : StepAt w g cap n) :
    Calls Tryf.prog 26 #[.slice (some ⟨g, 0, none⟩) 1 cap, .func (.func 27) #[] #[]] w fun e w' => e = .returned (.bool (decide (0 < n))) ∧ Below w.heap.size w w' := by
  have hx := ix_ge n
  go_enter Tryf.func26, Tryf.ntmps26
  go_wp2_with (go_at_call 30; refine (indexF_any g cap n _ h).mono ?_; rintro e w2 ⟨rfl, hb2⟩)
  go_ret
  exact ⟨rfl, hb2⟩
/-- Key.inElement. -/
theorem inElem_any (g cap : Nat) (n : Int) (t : ByteArray) (w : World) (h : StepAt w g cap n) :
    Calls Tryf.prog 24 #[.agg #[.slice (some ⟨g, 0, none⟩) 1 cap, .string t]] w fun e w' => e = .returned (.bool (decide (0 < n))) ∧ Below w.heap.size w w' := by
  have hb : Below w.heap.size w (w.alloc (.cells #[.slice (some ⟨g, 0, none⟩) 1 cap, .string t] 39)) := (Below.refl _ _).alloc (Nat.le_refl _) _
  have HS : Hid (StepAt (w.alloc (.cells #[.slice (some ⟨g, 0, none⟩) 1 cap, .string t] 39)) g cap n) := h.keep hb
  clear h
  go_enter Tryf.func24, Tryf.ntmps24
  go_wp2_with (go_at_call 26; refine (containsF_any g cap n _ HS.out).mono ?_; rintro e w2 ⟨rfl, hb2⟩)
  go_ret
  exact ⟨rfl, hb.trans (hb2.mono (by simp))⟩

theorem pair_new (w : World) (x y : Value) (t : TypeId) {W : World} (h : W.heap[w.heap.size]? = (w.alloc (.cells #[x, y] t)).heap[w.heap.size]?) : W.cell? ⟨w.heap.size, 0, none⟩ = some x ∧ W.cell? ⟨w.heap.size, 1, none⟩ = some y := by
  rw [heap_new] at h
  exact ⟨by simp [World.cell?, h], by simp [World.cell?, h]⟩

theorem bcell {W w1 : World} (hb : Below W.heap.size W w1) : (∀ b o, b < W.heap.size → w1.cell? ⟨b, o, none⟩ = W.cell? ⟨b, o, none⟩) ∧ (∀ b o, b < W.heap.size → w1.frozen? ⟨b, o, none⟩ = W.frozen? ⟨b, o, none⟩) :=
  ⟨fun b o h => hb.cell (p := ⟨b, o, none⟩) h, fun b o h => hb.frozen (p := ⟨b, o, none⟩) h⟩
theorem step_cells {w W : World} {g cap : Nat} {n : Int} (h : StepAt w g cap n) (hb : Below w.heap.size w W) : ∀ b : Addr, some (⟨g, 0, none⟩ : Addr) = some b → ∀ (j : Nat) (u : Value), [Value.string ⟨#[]⟩, Value.int .i64 n][j]? = some u → W.cell? (b.add j) = some u := by
  intro b hb0 j u hj
  obtain rfl := Option.some.inj hb0
  have h' := h.keep hb
  have e : (⟨g, 0, none⟩ : Addr).add j = ⟨g, j, none⟩ := by unfold Addr.add; split <;> simp_all
  rw [e]
  match j, hj with
  | 0, hj => rw [h'.c0]; simpa using hj
  | 1, hj => rw [h'.c1]; simpa using hj
theorem heap_low (w : World) (o o2 o3 : Obj) : (((w.alloc o).alloc o2).alloc o3).heap[w.heap.size]? = some o := by
  rw [Below.heap_alloc _ _ _ (by simp; omega)]
  exact heap_mid w o o2 rfl

set_option maxHeartbeats 800000 in
/-- Key.At at a path of one step. -/
theorem at_any (g cap : Nat) (n : Int) (t : ByteArray) (w : World) (h : StepAt w g cap n) (ht : t.size ≤ 1000000) :
    Calls Tryf.prog 18 #[.agg #[.slice (some ⟨g, 0, none⟩) 1 cap, .string t], .string ⟨#[110, 97, 109, 101]⟩] w fun e w' => IsKey e ∧ Below w.heap.size w w' := by
  obtain ⟨i0, hi, hz0, hz1, hz2⟩ := info_parts info51
  have hcap := h.cap
  have hlt : g < w.heap.size := cell_lt h.c0
  have HS : Hid (StepAt w g cap n) := h
  have HB : Hid (Below w.heap.size w (((w.alloc (.cells #[.slice (some ⟨g, 0, none⟩) 1 cap, .string t] 39)).alloc (.cells #[.slice Option.none 0 0, .string ⟨#[]⟩] 39)).alloc (.cells #[.string ⟨#[110, 97, 109, 101]⟩, .int .i64 0] 51))) :=
    (((Below.refl _ w).alloc (Nat.le_refl _) _).alloc (by simp) _).alloc (by simp; omega) _
  have HC := step_cells h HB.out
  clear h
  by_cases hp : 0 < n
  all_goals
    go_enter Tryf.func18, Tryf.ntmps18
    go_wp2_with (first | (go_at_call 23; refine (clip_one g cap hcap _).mono ?_; rintro e w2 ⟨rfl, hw2⟩; replace hw2 := hw2.symm; subst hw2) | (go_at_call 24; refine (inElem_any g cap n t _ (HS.out.keep HB1.out)).mono ?_; rintro e w2 ⟨rfl, hb2⟩; obtain ⟨hcc, hff⟩ := bcell hb2) | (at_builtin; refine wpList_append_grows _ rfl (.tmp 9) (.tmp 12) 37 rfl 51 i0 (.agg #[.string ⟨#[]⟩, .int .i64 0]) 2 24 Tryf.underlying37 hi hz0 hz1 hz2 rfl (by decide) (some ⟨g, 0, none⟩) 1 1 [.string ⟨#[]⟩, .int .i64 n] rfl (fun h => by cases h) rfl HC ⟨w.heap.size + 1 + 1, 0, none⟩ 1 1 [.string ⟨#[110, 97, 109, 101]⟩, .int .i64 0] rfl rfl (two_new _ _ _ (by simp) _) (by intro u hu; simp at hu; rcases hu with rfl | rfl <;> rfl) (by decide) (by unfold maxLen; omega) (by omega) ?_; intro v1 w1 hown1 hgrow1; obtain ⟨g1, cap1, hv1⟩ := own_any hown1; rw [hv1]; clear hv1 hown1; have HB1 : Hid (Below w.heap.size w w1) := (HB.out.grown hgrow1 (by simp; omega) (fun k h => by cases h)); have hbk := grown_block (k := w.heap.size + 1) hgrow1 (by simp) (heap_mid _ _ _ (by simp)); have hbl := grown_block (k := w.heap.size) hgrow1 (by simp; omega) (heap_low _ _ _ _); have hz1' : w.heap.size + 1 < w1.heap.size := (Array.getElem?_eq_some_iff.1 hbk).1; have hz0' : w.heap.size < w1.heap.size := (by omega); have c0 : w1.cell? ⟨w.heap.size + 1, 0, none⟩ = some (.slice Option.none 0 0) := (by simp [World.cell?, hbk]); have c1 : w1.cell? ⟨w.heap.size + 1, 1, none⟩ = some (.string ⟨#[]⟩) := (by simp [World.cell?, hbk]); have f0 : w1.frozen? ⟨w.heap.size + 1, 0, none⟩ = false := (by simp [World.frozen?, hbk]); have f1 : w1.frozen? ⟨w.heap.size + 1, 1, none⟩ = false := (by simp [World.frozen?, hbk]); have d0 : w1.cell? ⟨w.heap.size, 0, none⟩ = some (.slice (some ⟨g, 0, none⟩) 1 cap) := (by simp [World.cell?, hbl]); have d1 : w1.cell? ⟨w.heap.size, 1, none⟩ = some (.string t) := (by simp [World.cell?, hbl]); clear hbk hbl))
    have hfin : Below w.heap.size w w2 := HB1.out.trans (hb2.mono (by omega))
  · exact bodyPost_ret (v := .agg #[.slice (some ⟨g1, 0, none⟩) 2 cap1, .string (t ++ ⟨#[32]⟩ ++ ⟨#[110, 97, 109, 101]⟩)]) (by simp [results, Tryf.results18, go_sem, hcc, hz1', c0, c1]) rfl ⟨⟨_, _, _, _, rfl⟩, (hfin.setCell (by simp) _).setCell (by simp) _⟩
  · exact bodyPost_ret (v := .agg #[.slice (some ⟨g1, 0, none⟩) 2 cap1, .string (t ++ ⟨#[46]⟩ ++ ⟨#[110, 97, 109, 101]⟩)]) (by simp [results, Tryf.results18, go_sem, hcc, hz1', c0, c1]) rfl ⟨⟨_, _, _, _, rfl⟩, (hfin.setCell (by simp) _).setCell (by simp) _⟩
end Go.Proofs.Qxb6619025aFmt
