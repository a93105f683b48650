import Derived.Test.Qxb6616935aRows
import Derived.WalkKit
import Derived.WalkSpells
import Derived.StillTactics
import Derived.Laws.Pointers
import Derived.RegionTactic
import Derived.ChangeAlike
import Derived.Deep.QuietTactic
import Derived.BigQuiet
import Derived.Below
import Derived.Lib.EndianBits
namespace Go.Proofs.Qxb6616935a
open Go.RowKit
set_option linter.unusedVariables false

/-- x turned left by n bits, as both Go texts write it. -/
def rot (n : Nat) (x : Int) : Int := bits .or .u64 (IntKind.u64.wrap (x * 2 ^ n)) (x / 2 ^ (64 - n))
theorem and13 : bits .and .u64 13 63 = 13 := by kernel_rfl
theorem and16 : bits .and .u64 16 63 = 16 := by kernel_rfl
theorem and17 : bits .and .u64 17 63 = 17 := by kernel_rfl
theorem and21 : bits .and .u64 21 63 = 21 := by kernel_rfl
theorem and32 : bits .and .u64 32 63 = 32 := by kernel_rfl
theorem rot13 (x : Int) : bits .or .u64 (IntKind.u64.wrap (x * 8192)) (x / 2251799813685248) = rot 13 x := by
  simp [rot]
theorem rot16 (x : Int) : bits .or .u64 (IntKind.u64.wrap (x * 65536)) (x / 281474976710656) = rot 16 x := by
  simp [rot]
theorem rot17 (x : Int) : bits .or .u64 (IntKind.u64.wrap (x * 131072)) (x / 140737488355328) = rot 17 x := by
  simp [rot]
theorem rot21 (x : Int) : bits .or .u64 (IntKind.u64.wrap (x * 2097152)) (x / 8796093022208) = rot 21 x := by
  simp [rot]
theorem rot32 (x : Int) : bits .or .u64 (IntKind.u64.wrap (x * 4294967296)) (x / 4294967296) = rot 32 x := by
  simp [rot]
def isRot (n : Int) : Bool := n == 13 || n == 16 || n == 17 || n == 21 || n == 32
theorem isRot_cases {n : Int} (h : isRot n = true) : n = 13 ∨ n = 16 ∨ n = 17 ∨ n = 21 ∨ n = 32 := by
  simp [isRot] at h; omega

/-- math/bits.RotateLeft64 at the five turns that are met. -/
theorem rotl_t (x n : Int) (hn : isRot n = true) (w : World) :
    Calls Try.prog 37 #[.int .u64 x, .int .i64 n] w fun e w' => e = .returned (.int .u64 (rot n.toNat x)) ∧ w' = w := by
  rcases isRot_cases hn with rfl | rfl | rfl | rfl | rfl
  · have h := and13
    go_enter Try.func37, Try.ntmps37
    go_wp2
    go_ret
    exact ⟨by rw [rot13]; rfl, rfl⟩
  · have h := and16
    go_enter Try.func37, Try.ntmps37
    go_wp2
    go_ret
    exact ⟨by rw [rot16]; rfl, rfl⟩
  · have h := and17
    go_enter Try.func37, Try.ntmps37
    go_wp2
    go_ret
    exact ⟨by rw [rot17]; rfl, rfl⟩
  · have h := and21
    go_enter Try.func37, Try.ntmps37
    go_wp2
    go_ret
    exact ⟨by rw [rot21]; rfl, rfl⟩
  · have h := and32
    go_enter Try.func37, Try.ntmps37
    go_wp2
    go_ret
    exact ⟨by rw [rot32]; rfl, rfl⟩
/-- zzRotl at the five turns that are met. -/
theorem rotl_m (x n : Int) (hn : isRot n = true) (w : World) :
    Calls Try.prog 23 #[.int .u64 x, .int .u64 n] w fun e w' => e = .returned (.int .u64 (rot n.toNat x)) ∧ w' = w := by
  rcases isRot_cases hn with rfl | rfl | rfl | rfl | rfl
  · go_enter Try.func23, Try.ntmps23
    go_wp2
    go_ret
    exact ⟨by rw [rot13]; rfl, rfl⟩
  · go_enter Try.func23, Try.ntmps23
    go_wp2
    go_ret
    exact ⟨by rw [rot16]; rfl, rfl⟩
  · go_enter Try.func23, Try.ntmps23
    go_wp2
    go_ret
    exact ⟨by rw [rot17]; rfl, rfl⟩
  · go_enter Try.func23, Try.ntmps23
    go_wp2
    go_ret
    exact ⟨by rw [rot21]; rfl, rfl⟩
  · go_enter Try.func23, Try.ntmps23
    go_wp2
    go_ret
    exact ⟨by rw [rot32]; rfl, rfl⟩

/-- SipHash's state. -/
structure St where
  a : Int
  b : Int
  c : Int
  d : Int

/-- One SipRound. -/
def rnd (s : St) : St :=
  let a1 := IntKind.u64.wrap (s.a + s.b)
  let b1 := bits .xor .u64 (rot 13 s.b) a1
  let c1 := IntKind.u64.wrap (s.c + s.d)
  let d1 := bits .xor .u64 (rot 16 s.d) c1
  let a3 := IntKind.u64.wrap (rot 32 a1 + d1)
  let c2 := IntKind.u64.wrap (c1 + b1)
  ⟨a3, bits .xor .u64 (rot 17 b1) c2, rot 32 c2, bits .xor .u64 (rot 21 d1) a3⟩

/-- store.sipRound. -/
theorem round_t (a b c d : Int) (w : World) :
    Calls Try.prog 28 #[.int .u64 a, .int .u64 b, .int .u64 c, .int .u64 d] w fun e w' => e = .returned (.tuple #[.int .u64 (rnd ⟨a, b, c, d⟩).a, .int .u64 (rnd ⟨a, b, c, d⟩).b, .int .u64 (rnd ⟨a, b, c, d⟩).c, .int .u64 (rnd ⟨a, b, c, d⟩).d]) ∧ w' = w := by
  go_enter Try.func28, Try.ntmps28
  go_wp2_with (go_at_call 37; refine (rotl_t _ _ (by decide) _).mono ?_; rintro e w' ⟨rfl, rfl⟩)
  exact bodyPost_ret (v := .tuple #[.int .u64 (rnd ⟨a, b, c, d⟩).a, .int .u64 (rnd ⟨a, b, c, d⟩).b, .int .u64 (rnd ⟨a, b, c, d⟩).c, .int .u64 (rnd ⟨a, b, c, d⟩).d]) (by simp [results, Try.results28, go_sem, rnd]) rfl ⟨rfl, rfl⟩
end Go.Proofs.Qxb6616935a
