import Derived.Test.Qxb6616935aSipC
namespace Go.Proofs.Qxb6616935a
open Go.RowKit
set_option linter.unusedVariables false

/-- One word is taken in. -/
def absorb (m : Int) (s : St) : St :=
  let t := rnd (rnd ⟨s.a, s.b, s.c, bits .xor .u64 s.d m⟩)
  ⟨bits .xor .u64 t.a m, t.b, t.c, t.d⟩
/-- The first k words of W are taken in. -/
def run (W : Nat → Int) (s : St) : Nat → St
  | 0 => s
  | k + 1 => absorb (W k) (run W s k)
def init (k0 k1 : Int) : St := ⟨bits .xor .u64 k0 8317987319222330741, bits .xor .u64 k1 7237128888997146477, bits .xor .u64 k0 7816392313619706465, bits .xor .u64 k1 8387220255154660723⟩
def fin (s : St) : Int :=
  let t := rnd (rnd (rnd (rnd ⟨s.a, s.b, bits .xor .u64 s.c 255, s.d⟩)))
  bits .xor .u64 (bits .xor .u64 (bits .xor .u64 t.a t.b) t.c) t.d
/-- The bytes f b, .., f (b + i - 1), the least first. -/
def part (f : Nat → Int) (b : Nat) : Nat → Int
  | 0 => 0
  | i + 1 => part f b i + f (b + i) * 256 ^ i
/-- The last word: what is left over, and the length in the top byte. -/
def lastW (f : Nat → Int) (n : Nat) : Int := ((n : Int) % 256) * 72057594037927936 + part f (8 * (n / 8)) (n % 8)
def word (f : Nat → Int) (n k : Nat) : Int := if k < n / 8 then le8 f (8 * k) else lastW f n
/-- SipHash-2-4 of the bytes f 0, .., f (n - 1) under (k0, k1). -/
def sip (k0 k1 : Int) (f : Nat → Int) (n : Nat) : Int := fin (run (word f n) (init k0 k1) (n / 8 + 1))

theorem part_bd (f : Nat → Int) (b : Nat) (hb : ∀ i, 0 ≤ f i ∧ f i ≤ 255) : ∀ i, 0 ≤ part f b i ∧ part f b i < 256 ^ i
  | 0 => by simp [part]
  | i + 1 => by
    obtain ⟨h1, h2⟩ := part_bd f b hb i
    obtain ⟨h3, h4⟩ := hb (b + i)
    have hp : (0 : Int) < 256 ^ i := Int.pow_pos (by decide)
    have e1 : 0 ≤ f (b + i) * 256 ^ i := Int.mul_nonneg h3 (Int.le_of_lt hp)
    have e2 : f (b + i) * 256 ^ i ≤ 255 * 256 ^ i := Int.mul_le_mul_of_nonneg_right h4 (Int.le_of_lt hp)
    refine ⟨by simp only [part]; omega, ?_⟩
    simp only [part, Int.pow_succ]
    omega

/-- 'x | y<<s' where x has bits from 56 on and below s alone. -/
theorem or_mid (i : Nat) (hi : i ≤ 6) (A L C : Int) (hA0 : 0 ≤ A) (hA : A < 256) (hL0 : 0 ≤ L) (hL : L < 256 ^ i) (hC0 : 0 ≤ C) (hC : C ≤ 255) :
    bits .or .u64 (A * 72057594037927936 + L) (C * 256 ^ i) = A * 72057594037927936 + (L + C * 256 ^ i) := by
  obtain ⟨A, rfl⟩ := Int.eq_ofNat_of_zero_le hA0
  obtain ⟨L, rfl⟩ := Int.eq_ofNat_of_zero_le hL0
  obtain ⟨C, rfl⟩ := Int.eq_ofNat_of_zero_le hC0
  have e256 : (256 : Nat) ^ i = 2 ^ (8 * i) := by rw [Nat.pow_mul]
  have ep : ((256 ^ i : Nat) : Int) = (256 : Int) ^ i := Int.natCast_pow 256 i
  have hL' : L < 2 ^ (8 * i) := by rw [← e256]; omega
  have hC' : C < 2 ^ 8 := by omega
  have hCL : 2 ^ (8 * i) * C + L < 2 ^ 56 := by
    have h1 : 2 ^ (8 * i) * C + L < 2 ^ (8 * i) * 2 ^ 8 := by
      have : 2 ^ (8 * i) * (C + 1) ≤ 2 ^ (8 * i) * 2 ^ 8 := Nat.mul_le_mul_left _ hC'
      rw [Nat.mul_add] at this; omega
    have h2 : 2 ^ (8 * i) * 2 ^ 8 ≤ 2 ^ 56 := by
      rw [← Nat.pow_add]; exact Nat.pow_le_pow_right (by decide) (by omega)
    omega
  have hC2 : 2 ^ (8 * i) * C < 2 ^ 56 := by omega
  have hA2 : A < 256 := by omega
  have hx : 2 ^ 56 * A + L < 2 ^ 64 := by
    have : L < 2 ^ 56 := Nat.lt_of_lt_of_le hL' (Nat.pow_le_pow_right (by decide) (by omega))
    omega
  have k := (bits_nat .u64 64 (by decide) wraps_u64 (2 ^ 56 * A + L) (2 ^ (8 * i) * C) hx (by omega)).2
  have e1 : ((A : Int) * 72057594037927936 + (L : Int)) = ((2 ^ 56 * A + L : Nat) : Int) := by omega
  have e2 : (C : Int) * 256 ^ i = ((2 ^ (8 * i) * C : Nat) : Int) := by
    rw [← e256, Int.natCast_mul, ep, Int.mul_comm]
  rw [e1, e2, k]
  have o1 : 2 ^ 56 * A + L = 2 ^ 56 * A ||| L := Nat.two_pow_add_eq_or_of_lt (Nat.lt_of_lt_of_le hL' (Nat.pow_le_pow_right (by decide) (by omega))) A
  have o2 : 2 ^ (8 * i) * C + L = 2 ^ (8 * i) * C ||| L := Nat.two_pow_add_eq_or_of_lt hL' C
  have o3 : 2 ^ 56 * A + (2 ^ (8 * i) * C + L) = 2 ^ 56 * A ||| (2 ^ (8 * i) * C + L) := Nat.two_pow_add_eq_or_of_lt hCL A
  rw [o1, Nat.or_assoc, Nat.or_comm L, ← o2, ← o3]
  omega
end Go.Proofs.Qxb6616935a
