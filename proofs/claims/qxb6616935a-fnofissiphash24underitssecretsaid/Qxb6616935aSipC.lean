import Derived.Test.Qxb6616935aSipB
namespace Go.Proofs.Qxb6616935a
open Go.RowKit
set_option linter.unusedVariables false

theorem cell_lt {w : World} {a : Addr} {v : Value} (h : w.cell? a = some v) : a.block < w.heap.size := by
  rcases Nat.lt_or_ge a.block w.heap.size with h1 | h1
  · exact h1
  · simp [World.cell?, Array.getElem?_eq_none h1] at h
theorem cell_old {w : World} {a : Addr} {v : Value} (o : Obj) (h : w.cell? a = some v) : (w.alloc o).cell? a = some v := by
  rw [World.cell?_alloc_old _ _ _ (Nat.ne_of_lt (cell_lt h))]; exact h

theorem ret_int {k : IntKind} {a b : Int} (h : a = b) : Ending.returned (.int k a) = .returned (.int k b) := by rw [h]
/-- The word that eight bytes spell, the least first. -/
def le8 (f : Nat → Int) (o : Nat) : Int := f o + f (o + 1) * 256 + f (o + 2) * 65536 + f (o + 3) * 16777216 + f (o + 4) * 4294967296 + f (o + 5) * 1099511627776 + f (o + 6) * 281474976710656 + f (o + 7) * 72057594037927936

theorem le_sum (f : Nat → Int) (b : Nat) (hb : ∀ i, 0 ≤ f i ∧ f i ≤ 255) :
    bits .or .u64 (bits .or .u64 (bits .or .u64 (bits .or .u64 (bits .or .u64 (bits .or .u64 (bits .or .u64 (f b) (f (b + 1) * 256)) (f (b + 2) * 65536)) (f (b + 3) * 16777216)) (f (b + 4) * 4294967296)) (f (b + 5) * 1099511627776)) (f (b + 6) * 281474976710656)) (f (b + 7) * 72057594037927936) = le8 f b := by
  have h0 := hb b
  have h1 := hb (b + 1)
  have h2 := hb (b + 2)
  have h3 := hb (b + 3)
  have h4 := hb (b + 4)
  have h5 := hb (b + 5)
  have h6 := hb (b + 6)
  have h7 := hb (b + 7)
  unfold le8
  generalize f b = x0 at *
  generalize f (b + 1) = x1 at *
  generalize f (b + 2) = x2 at *
  generalize f (b + 3) = x3 at *
  generalize f (b + 4) = x4 at *
  generalize f (b + 5) = x5 at *
  generalize f (b + 6) = x6 at *
  generalize f (b + 7) = x7 at *
  simp (disch := omega) only [u64_or8, u64_or16, u64_or24, u64_or32, u64_or40, u64_or48, u64_or56]

set_option maxHeartbeats 1600000 in
set_option maxRecDepth 100000 in
/-- binary.LittleEndian.Uint64. -/
theorem le_any (g o n c b : Nat) (f : Nat → Int) (hb : ∀ i, 0 ≤ f i ∧ f i ≤ 255) (w : World) (hn : 8 ≤ n)
    (hc : ∀ i, i < 8 → w.cell? ⟨g, o + i, none⟩ = some (.int .u8 (f (b + i)))) :
    Calls Try.prog 27 #[.agg #[], .slice (some ⟨g, o, none⟩) n c] w fun e w' => e = .returned (.int .u64 (le8 f b)) ∧ Below w.heap.size w w' := by
  have HL : Hid (_ = _) := le_sum f b hb
  have d0 := cell_old (.cells #[] 89) (hc 0 (by decide))
  have d1 := cell_old (.cells #[] 89) (hc 1 (by decide))
  have d2 := cell_old (.cells #[] 89) (hc 2 (by decide))
  have d3 := cell_old (.cells #[] 89) (hc 3 (by decide))
  have d4 := cell_old (.cells #[] 89) (hc 4 (by decide))
  have d5 := cell_old (.cells #[] 89) (hc 5 (by decide))
  have d6 := cell_old (.cells #[] 89) (hc 6 (by decide))
  have d7 := cell_old (.cells #[] 89) (hc 7 (by decide))
  clear hc
  simp only [Nat.add_zero] at d0
  have h0 := hb b
  have h1 := hb (b + 1)
  have h2 := hb (b + 2)
  have h3 := hb (b + 3)
  have h4 := hb (b + 4)
  have h5 := hb (b + 5)
  have h6 := hb (b + 6)
  have h7 := hb (b + 7)
  clear hb
  generalize le8 f b = r at *
  generalize f b = x0 at *
  generalize f (b + 1) = x1 at *
  generalize f (b + 2) = x2 at *
  generalize f (b + 3) = x3 at *
  generalize f (b + 4) = x4 at *
  generalize f (b + 5) = x5 at *
  generalize f (b + 6) = x6 at *
  generalize f (b + 7) = x7 at *
  have q0 : 0 < n := by omega
  have q1 : (1 : Int) < (n : Int) := by omega
  have q2 : (2 : Int) < (n : Int) := by omega
  have q3 : (3 : Int) < (n : Int) := by omega
  have q4 : (4 : Int) < (n : Int) := by omega
  have q5 : (5 : Int) < (n : Int) := by omega
  have q6 : (6 : Int) < (n : Int) := by omega
  have q7 : (7 : Int) < (n : Int) := by omega
  go_enter Try.func27, Try.ntmps27
  go_wp2
  go_quiet (fail)
  go_wp2
  go_ret
  refine ⟨?_, ((Below.refl _ w).alloc (Nat.le_refl _) _).trans ⟨rfl, rfl, rfl, Nat.le_refl _, fun _ _ => rfl⟩⟩
  exact ret_int HL.out
end Go.Proofs.Qxb6616935a
