import Derived.Test.Qxb6616935aSipG
namespace Go.Proofs.Qxb6616935a
open Go.RowKit
set_option linter.unusedVariables false

/-- The padded message: the bytes, zeros, the length's low byte. -/
def padf (f : Nat → Int) (n i : Nat) : Int := if i < n then f i else if i + 1 = (n / 8 + 1) * 8 then (n : Int) % 256 else 0
theorem padf_bd (f : Nat → Int) (n : Nat) (hb : ∀ i, 0 ≤ f i ∧ f i ≤ 255) (i : Nat) : 0 ≤ padf f n i ∧ padf f n i ≤ 255 := by
  unfold padf
  split
  · exact hb i
  · split <;> omega
/-- Eight bytes from b on, read from the last to the first. -/
def hw (p : Nat → Int) (b : Nat) : Nat → Int
  | 0 => 0
  | t + 1 => hw p b t * 256 + p (b + (7 - t))
theorem hw_bd (p : Nat → Int) (b : Nat) (hb : ∀ i, 0 ≤ p i ∧ p i ≤ 255) : ∀ t, 0 ≤ hw p b t ∧ hw p b t < 256 ^ t
  | 0 => by simp [hw]
  | t + 1 => by
    obtain ⟨h1, h2⟩ := hw_bd p b hb t
    have h3 := hb (b + (7 - t))
    simp only [hw, Int.pow_succ]
    omega
theorem hw_bd7 (p : Nat → Int) (b : Nat) (hb : ∀ i, 0 ≤ p i ∧ p i ≤ 255) (t : Nat) (ht : t ≤ 7) : 0 ≤ hw p b t ∧ hw p b t < 72057594037927936 := by
  obtain ⟨h1, h2⟩ := hw_bd p b hb t
  refine ⟨h1, ?_⟩
  rcases (by omega : t = 0 ∨ t = 1 ∨ t = 2 ∨ t = 3 ∨ t = 4 ∨ t = 5 ∨ t = 6 ∨ t = 7) with rfl | rfl | rfl | rfl | rfl | rfl | rfl | rfl <;> simp at h2 ⊢ <;> omega
theorem hw8 (p : Nat → Int) (b : Nat) : hw p b 8 = le8 p b := by
  simp [hw, le8]
  omega
theorem or_low (m x : Int) (h0 : 0 ≤ m) (h1 : m < 72057594037927936) (hx0 : 0 ≤ x) (hx : x ≤ 255) : bits .or .u64 (m * 256) x = m * 256 + x :=
  bits_join .u64 64 (by decide) wraps_u64 8 (m * 256) x (by omega) (by omega) (by omega) hx0 (by omega) (by omega)
theorem padf_lo (f : Nat → Int) (n i : Nat) (h : i < n) : padf f n i = f i := by unfold padf; rw [if_pos h]
theorem padf_mid (f : Nat → Int) (n i : Nat) (h : n ≤ i) (h2 : i + 1 < (n / 8 + 1) * 8) : padf f n i = 0 := by unfold padf; rw [if_neg (by omega), if_neg (by omega)]
theorem padf_top (f : Nat → Int) (n i : Nat) (h : n ≤ i) (h2 : i + 1 = (n / 8 + 1) * 8) : padf f n i = (n : Int) % 256 := by unfold padf; rw [if_neg (by omega), if_pos h2]
theorem word_pad (f : Nat → Int) (n k : Nat) (hk : k < n / 8 + 1) : le8 (padf f n) (8 * k) = word f n k := by
  by_cases h : k < n / 8
  · rw [word, if_pos h]
    unfold le8
    rw [padf_lo _ _ _ (by omega), padf_lo _ _ _ (by omega), padf_lo _ _ _ (by omega), padf_lo _ _ _ (by omega), padf_lo _ _ _ (by omega), padf_lo _ _ _ (by omega), padf_lo _ _ _ (by omega), padf_lo _ _ _ (by omega)]
  · have hk2 : k = n / 8 := by omega
    subst hk2
    rw [word_hi, lastW]
    have t7 := padf_top f n (8 * (n / 8) + 7) (by omega) (by omega)
    unfold le8
    rw [t7]
    clear t7 h hk
    rcases (by omega : n % 8 = 0 ∨ n % 8 = 1 ∨ n % 8 = 2 ∨ n % 8 = 3 ∨ n % 8 = 4 ∨ n % 8 = 5 ∨ n % 8 = 6 ∨ n % 8 = 7) with h | h | h | h | h | h | h | h <;>
    · rw [h]
      repeat rw [padf_lo _ _ _ (by omega)]
      repeat rw [padf_mid _ _ _ (by omega) (by omega)]
      simp only [part, Nat.add_zero]
      omega

theorem rounds2 (B : Nat) (s : St) (w : World) (hv : VAt w B s) :
    Calls Try.prog 19 #[.pointer (some ⟨B, 0, none⟩), .int .i64 2] w fun e w' => e = .returned (.tuple #[]) ∧ VAt w' B (rnd (rnd s)) ∧ Others B w w' :=
  rounds_m B 2 (by decide) s w hv
theorem rounds4 (B : Nat) (s : St) (w : World) (hv : VAt w B s) :
    Calls Try.prog 19 #[.pointer (some ⟨B, 0, none⟩), .int .i64 4] w fun e w' => e = .returned (.tuple #[]) ∧ VAt w' B (rnd (rnd (rnd (rnd s)))) ∧ Others B w w' :=
  rounds_m B 4 (by decide) s w hv
theorem VAt.set0 {B : Nat} {w : World} {a b c d x : Int} (hv : VAt w B ⟨a, b, c, d⟩) : VAt (w.setCell ⟨B, 0, none⟩ (.int .u64 x)) B ⟨x, b, c, d⟩ := by
  obtain ⟨c0, c1, c2, c3, f0, f1, f2, f3⟩ := hv
  simp only at c0 c1 c2 c3
  exact ⟨by simp [go_sem, *], by simp [go_sem, *], by simp [go_sem, *], by simp [go_sem, *], by simp [go_sem, *], by simp [go_sem, *], by simp [go_sem, *], by simp [go_sem, *]⟩
theorem VAt.set2 {B : Nat} {w : World} {a b c d x : Int} (hv : VAt w B ⟨a, b, c, d⟩) : VAt (w.setCell ⟨B, 2, none⟩ (.int .u64 x)) B ⟨a, b, x, d⟩ := by
  obtain ⟨c0, c1, c2, c3, f0, f1, f2, f3⟩ := hv
  simp only at c0 c1 c2 c3
  exact ⟨by simp [go_sem, *], by simp [go_sem, *], by simp [go_sem, *], by simp [go_sem, *], by simp [go_sem, *], by simp [go_sem, *], by simp [go_sem, *], by simp [go_sem, *]⟩
theorem VAt.set3 {B : Nat} {w : World} {a b c d x : Int} (hv : VAt w B ⟨a, b, c, d⟩) : VAt (w.setCell ⟨B, 3, none⟩ (.int .u64 x)) B ⟨a, b, c, x⟩ := by
  obtain ⟨c0, c1, c2, c3, f0, f1, f2, f3⟩ := hv
  simp only at c0 c1 c2 c3
  exact ⟨by simp [go_sem, *], by simp [go_sem, *], by simp [go_sem, *], by simp [go_sem, *], by simp [go_sem, *], by simp [go_sem, *], by simp [go_sem, *], by simp [go_sem, *]⟩
theorem Others.set {B : Nat} {w w' : World} (h : Others B w w') (i : Nat) (v : Value) : Others B w (w'.setCell ⟨B, i, none⟩ v) :=
  h.trans ⟨rfl, rfl, rfl, by simp [World.setCell], fun k hk => Below.heap_setCell _ _ _ _ hk⟩
theorem Others.cell {B : Nat} {w w' : World} (h : Others B w w') {p : Addr} (hp : p.block ≠ B) : w'.cell? p = w.cell? p := World.cell?_of_block (w := w) (h.block p.block hp)
theorem Others.below {B : Nat} {w w' : World} (h : Others B w w') : Below B w w' := ⟨h.os, h.tape, h.output, Nat.le_of_eq h.size.symm, fun k hk => h.block k (Nat.ne_of_lt hk)⟩
end Go.Proofs.Qxb6616935a
