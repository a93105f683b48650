import Derived.Test.Qxb6619025aFmtPdC
import Derived.ArgAppend
namespace Go.Proofs.Qxb6619025aFmt
open Go.RowKit
set_option linter.unusedVariables false

theorem info51 : (Tryf.prog.info? 51).map (fun i => (i.zero, i.size, i.bytes)) = some (some (.agg #[.string ⟨#[]⟩, .int .i64 0]), 2, 24) := by kernel_rfl

theorem clip_nil (w : World) : Calls Tryf.prog 23 #[.slice none 0 0] w fun e w' => e = .returned (.slice none 0 0) ∧ w' = w := by
  go_enter Tryf.func23, Tryf.ntmps23
  go_wp2
  go_ret
  exact ⟨rfl, rfl⟩
theorem clip_one (g cap : Nat) (hc : 1 ≤ cap) (w : World) : Calls Tryf.prog 23 #[.slice (some ⟨g, 0, none⟩) 1 cap] w fun e w' => e = .returned (.slice (some ⟨g, 0, none⟩) 1 1) ∧ w' = w := by
  have h1 : (1 : Int) ≤ (cap : Int) := by omega
  go_enter Tryf.func23, Tryf.ntmps23
  go_wp2
  go_ret
  exact ⟨rfl, rfl⟩
theorem isElem_any (s : ByteArray) (n : Int) (w : World) : Calls Tryf.prog 27 #[.agg #[.string s, .int .i64 n]] w fun e w' => e = .returned (.bool (decide (0 < n))) ∧ Below w.heap.size w w' := by
  go_enter Tryf.func27, Tryf.ntmps27
  go_wp2
  go_ret
  exact ⟨rfl, (Below.refl _ _).alloc (Nat.le_refl _) _⟩
theorem kstring_any (p : Value) (t : ByteArray) (a : Option Addr) (l c : Nat) (hp : p = .slice a l c) (w : World) : Calls Tryf.prog 46 #[.agg #[p, .string t]] w fun e w' => e = .returned (.string t) ∧ Below w.heap.size w w' := by
  subst hp
  go_enter Tryf.func46, Tryf.ntmps46
  go_wp2
  go_ret
  exact ⟨rfl, (Below.refl _ _).alloc (Nat.le_refl _) _⟩

theorem two_new (w : World) (x y : Value) {k : Nat} (hk : k = w.heap.size) (t : TypeId) : ∀ (j : Nat) (u : Value), [x, y][j]? = some u → (w.alloc (.cells #[x, y] t)).cell? ((⟨k, 0, none⟩ : Addr).add j) = some u := by
  subst hk
  intro j u hj
  have e : (⟨w.heap.size, 0, none⟩ : Addr).add j = ⟨w.heap.size, j, none⟩ := by unfold Addr.add; split <;> simp_all
  rw [e, World.cell?_alloc_new]
  match j, hj with
  | 0, hj => simpa using hj
  | 1, hj => simpa using hj
theorem own_any {w : World} {base : Nat} {e : TypeId} {size : Nat} {v : Value} {m : Nat} {xs : List Value} (h : w.ownsRow base e size v (m + 1) xs) : ∃ g cap, v = .slice (some ⟨g, 0, none⟩) (m + 1) cap := by
  rcases h.2 with ⟨_, h0⟩ | ⟨g, cap, cur, rfl, _⟩
  · omega
  · exact ⟨g, cap, rfl⟩
theorem grown_block {w w1 : World} {k : Nat} {o : Obj} (hg : w.grownBy w1 none) (hk : k < w.heap.size) (h : w.heap[k]? = some o) : w1.heap[k]? = some o := by
  rw [hg.block k hk (by simp)]; exact h
theorem heap_mid (w : World) (o o2 : Obj) {k : Nat} (hk : k = w.heap.size) : ((w.alloc o).alloc o2).heap[k]? = some o := by
  subst hk
  rw [Below.heap_alloc _ _ _ (by simp)]
  exact heap_new w o

/-- A path of one step, the element n. -/
structure StepAt (w : World) (g cap : Nat) (n : Int) : Prop where
  cap : 1 ≤ cap
  c0 : w.cell? ⟨g, 0, none⟩ = some (.string ⟨#[]⟩)
  c1 : w.cell? ⟨g, 1, none⟩ = some (.int .i64 n)
theorem StepAt.keep {w w' : World} {g cap : Nat} {n : Int} (h : StepAt w g cap n) (hb : Below w.heap.size w w') : StepAt w' g cap n :=
  ⟨h.cap, by rw [hb.cell (cell_lt h.c0)]; exact h.c0, by rw [hb.cell (cell_lt h.c1)]; exact h.c1⟩
theorem stepAt_of {w : World} {base g cap : Nat} {n : Int} (h : w.ownsRow base 51 2 (.slice (some ⟨g, 0, none⟩) (0 + 1) cap) (0 + 1) ([] ++ [.string ⟨#[]⟩, .int .i64 n])) : StepAt w g cap n := by
  rcases h.2 with ⟨h0, _⟩ | ⟨g', cap', cur, e1, _, hh, hc, _, hsz, htk⟩
  · cases h0
  · simp at e1
    obtain ⟨rfl, rfl⟩ := e1
    have t0 : (cur.toList.take ((0 + 1) * 2))[0]? = some (.string ⟨#[]⟩) := by rw [htk]; rfl
    have t1 : (cur.toList.take ((0 + 1) * 2))[1]? = some (.int .i64 n) := by rw [htk]; rfl
    rw [List.getElem?_take_of_lt (by omega)] at t0 t1
    exact ⟨by omega, by simp only [World.cell?, hh]; simpa using t0, by simp only [World.cell?, hh]; simpa using t1⟩

/-- Key.element at the empty key. -/
theorem kelement_any (n : Int) (t : ByteArray) (w : World) :
    Calls Tryf.prog 21 #[.agg #[.slice none 0 0, .string ⟨#[]⟩], .int .i64 n, .string t] w fun e w' => ∃ g cap, e = .returned (.agg #[.slice (some ⟨g, 0, none⟩) 1 cap, .string t]) ∧ StepAt w' g cap n ∧ Below w.heap.size w w' := by
  obtain ⟨i0, hi, hz0, hz1, hz2⟩ := info_parts info51
  go_enter Tryf.func21, Tryf.ntmps21
  go_wp2_with (first | (go_at_call 23; refine (clip_nil _).mono ?_; rintro e w2 ⟨rfl, hw2⟩; replace hw2 := hw2.symm; subst hw2) | (at_builtin; refine wpList_append_grows _ rfl (.tmp 9) (.tmp 12) 37 rfl 51 i0 (.agg #[.string ⟨#[]⟩, .int .i64 0]) 2 24 Tryf.underlying37 hi hz0 hz1 hz2 rfl (by decide) Option.none 0 0 [] rfl (fun _ => ⟨rfl, rfl⟩) rfl (fun b h => by cases h) ⟨w.heap.size + 1 + 1, 0, none⟩ 1 1 [.string ⟨#[]⟩, .int .i64 n] rfl rfl (two_new _ _ _ (by simp) _) (by intro u hu; simp at hu; rcases hu with rfl | rfl <;> rfl) (by decide) (by unfold maxLen; omega) (by omega) ?_; intro v1 w1 hown1 hgrow1; obtain ⟨g1, cap1, hv1⟩ := own_any hown1; rw [hv1]; rw [hv1] at hown1; clear hv1; have hbk := grown_block (k := w.heap.size + 1) hgrow1 (by simp) (heap_mid _ _ _ (by simp)); have c0 : w1.cell? ⟨w.heap.size + 1, 0, none⟩ = some (.slice Option.none 0 0) := (by simp [World.cell?, hbk]); have c1 : w1.cell? ⟨w.heap.size + 1, 1, none⟩ = some (.string ⟨#[]⟩) := (by simp [World.cell?, hbk]); have f0 : w1.frozen? ⟨w.heap.size + 1, 0, none⟩ = false := (by simp [World.frozen?, hbk]); have f1 : w1.frozen? ⟨w.heap.size + 1, 1, none⟩ = false := (by simp [World.frozen?, hbk])))
  refine bodyPost_ret (v := .agg #[.slice (some ⟨g1, 0, none⟩) 1 cap1, .string t]) (by simp [results, Tryf.results21, go_sem, c0, c1]) rfl ⟨g1, cap1, rfl, ?_, ?_⟩
  · exact stepAt_of (ownsRow_setCell_below (ownsRow_setCell_below hown1 (by simp) _) (by simp) _)
  · exact ((((((Below.refl _ w).alloc (Nat.le_refl _) _).alloc (by simp) _).alloc (by simp; omega) _).grown hgrow1 (by simp; omega) (fun k h => by cases h)).setCell (by simp) _).setCell (by simp) _
end Go.Proofs.Qxb6619025aFmt
