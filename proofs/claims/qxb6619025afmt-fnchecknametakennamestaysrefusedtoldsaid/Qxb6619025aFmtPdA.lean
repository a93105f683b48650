import Derived.Test.Qxb6619025aFmtRows
import Derived.WalkKit
import Derived.WalkSpells
import Derived.StillTactics
import Derived.Laws.Pointers
import Derived.RegionTactic
import Derived.ChangeAlike
import Derived.Deep.QuietTactic
import Derived.BigQuiet
import Derived.Below
namespace Go.Proofs.Qxb6619025aFmt
open Go.RowKit
set_option linter.unusedVariables false

/-- Is one of f 0, .., f (j - 1) the string x? -/
def has (f : Nat → ByteArray) (x : ByteArray) : Nat → Bool
  | 0 => false
  | j + 1 => has f x j || (f j).toList == x.toList
theorem has_hit {f : Nat → ByteArray} {x : ByteArray} {k n : Nat} (hk : k < n) (h : ((f k).toList == x.toList) = true) : has f x n = true := by
  induction n with
  | zero => omega
  | succ n ih =>
    by_cases e : k = n
    · subst e; simp [has, h]
    · simp [has, ih (by omega)]
theorem has_next {f : Nat → ByteArray} {x : ByteArray} {k : Nat} (h : has f x k = false) (h2 : ((f k).toList == x.toList) = false) : has f x (k + 1) = false := by
  simp [has, h, h2]
theorem beq_flip (a b : List UInt8) : (a == b) = (b == a) := by
  cases h : a == b with
  | true => have := eq_of_beq h; subst this; exact h.symm
  | false =>
    cases h2 : b == a with
    | false => rfl
    | true => have := eq_of_beq h2; subst this; rw [h2] at h; cases h
theorem ret_bool {a b : Bool} (h : a = b) : Ending.returned (.bool a) = .returned (.bool b) := by rw [h]
theorem ret_int {k : IntKind} {a b : Int} (h : a = b) : Ending.returned (.int k a) = .returned (.int k b) := by rw [h]
theorem cell_lt {w : World} {a : Addr} {v : Value} (h : w.cell? a = some v) : a.block < w.heap.size := by
  rcases Nat.lt_or_ge a.block w.heap.size with h1 | h1
  · exact h1
  · simp [World.cell?, Array.getElem?_eq_none h1] at h
theorem cell_old {w : World} {a : Addr} {v : Value} (o : Obj) (h : w.cell? a = some v) : (w.alloc o).cell? a = some v := by
  rw [World.cell?_alloc_old _ _ _ (Nat.ne_of_lt (cell_lt h))]; exact h

/-- zzContains. -/
theorem contains_any (ao : Option Addr) (b off n c : Nat) (ha : 0 < n → ao = some ⟨b, off, none⟩) (f : Nat → ByteArray) (x : ByteArray) (w : World) (hn : n ≤ 9223372036854775807)
    (hc : ∀ i, i < n → w.cell? ⟨b, off + i, none⟩ = some (.string (f i))) :
    Calls Tryf.prog 14 #[.slice ao n c, .string x] w fun e w' => e = .returned (.bool (has f x n)) ∧ w' = w := by
  go_enter Tryf.func14, Tryf.ntmps14
  go_wp2
  go_loop [5] (fun i => ∃ k : Nat, k ≤ n ∧ i = .int .i64 k ∧ has f x k = false) (fun i => n - (intOf i).toNat)
  case atStart => exact ⟨0, by omega, rfl, rfl⟩
  case round =>
    obtain ⟨k, hk, rfl, hh⟩ := hrel
    have HH : Hid (has f x k = false) := hh
    clear hh
    by_cases hlt : k < n
    · obtain rfl := ha (by omega)
      have hck := hc k hlt
      have hkn : (k : Int) < (n : Int) := by omega
      clear ha
      go_wp2
      · go_ret
        exact ⟨ret_bool (has_hit hlt ‹_›).symm, rfl⟩
      · go_round
        case rel => exact ⟨k + 1, by omega, by go_num, has_next HH.out ‹_›⟩
        case measure => simp [intOf]; omega
    · obtain rfl : k = n := by omega
      go_wp2
      go_ret
      exact ⟨ret_bool HH.out.symm, rfl⟩

/-- slices.Index over strings: at least 0 just where x is among them. -/
theorem index_any (ao : Option Addr) (b off n c : Nat) (ha : 0 < n → ao = some ⟨b, off, none⟩) (f : Nat → ByteArray) (x : ByteArray) (w : World) (hn : n ≤ 9223372036854775807)
    (hc : ∀ i, i < n → w.cell? ⟨b, off + i, none⟩ = some (.string (f i))) :
    Calls Tryf.prog 20 #[.slice ao n c, .string x] w fun e w' => ∃ z : Int, e = .returned (.int .i64 z) ∧ decide (0 ≤ z) = has f x n ∧ w' = w := by
  go_enter Tryf.func20, Tryf.ntmps20
  go_wp2
  go_loop [8] (fun i => ∃ k : Nat, k ≤ n ∧ i = .int .i64 k ∧ has f x k = false) (fun i => n - (intOf i).toNat)
  case atStart => exact ⟨0, by omega, rfl, rfl⟩
  case round =>
    obtain ⟨k, hk, rfl, hh⟩ := hrel
    have HH : Hid (has f x k = false) := hh
    clear hh
    by_cases hlt : k < n
    · obtain rfl := ha (by omega)
      have hck := hc k hlt
      have hkn : (k : Int) < (n : Int) := by omega
      clear ha
      go_wp2
      · have h1 : (x.toList == (f k).toList) = true := by assumption
        go_ret
        exact ⟨(k : Int), rfl, by rw [has_hit hlt (by rw [beq_flip]; exact h1)]; simp, rfl⟩
      · have h1 : (x.toList == (f k).toList) = false := by assumption
        go_round
        case rel => exact ⟨k + 1, by omega, by go_num, has_next HH.out (by rw [beq_flip]; exact h1)⟩
        case measure => simp [intOf]; omega
    · obtain rfl : k = n := by omega
      go_wp2
      go_ret
      exact ⟨-1, rfl, by rw [HH.out]; rfl, rfl⟩

/-- zzSeenBefore. -/
theorem seen_any (ao : Option Addr) (b off n c j : Nat) (ha : ao = some ⟨b, off, none⟩) (f : Nat → ByteArray) (w : World) (hj : j < n) (hn : n ≤ 9223372036854775807)
    (hc : ∀ i, i < n → w.cell? ⟨b, off + i, none⟩ = some (.string (f i))) :
    Calls Tryf.prog 9 #[.slice ao n c, .int .i64 j] w fun e w' => e = .returned (.bool (has f (f j) j)) ∧ ∃ q, w' = w.drewN q := by
  subst ha
  go_enter Tryf.func9, Tryf.ntmps9
  go_wp2
  go_loopw [5] (fun i wr => ∃ k q : Nat, k ≤ j ∧ i = .int .i64 k ∧ has f (f j) k = false ∧ wr = w.drewN q) (fun i _ => j - (intOf i).toNat)
  case atStart => exact ⟨0, 0, by omega, rfl, rfl, rfl⟩
  case round =>
    obtain ⟨k, q, hk, rfl, hh, rfl⟩ := hrel
    have HH : Hid (has f (f j) k = false) := hh
    clear hh
    by_cases hlt : k < j
    · have hck := hc k (by omega)
      have hcj := hc j hj
      have hkj : (k : Int) < (j : Int) := by omega
      have hkn : (k : Int) < (n : Int) := by omega
      have hjn : (j : Int) < (n : Int) := by omega
      clear hc
      go_wp2
      go_quiet (fail)
      go_wp2
      · go_ret
        exact ⟨ret_bool (has_hit hlt ‹_›).symm, _, World.drewN_drewN _ _ _⟩
      · go_roundw
        case rel => exact ⟨k + 1, _, by omega, by go_num, has_next HH.out ‹_›, rfl⟩
        case measure => simp [intOf]; omega
    · obtain rfl : k = j := by omega
      go_wp2
      go_ret
      exact ⟨ret_bool HH.out.symm, _, rfl⟩

/-- slices.Contains over strings. -/
theorem among_any (ao : Option Addr) (b off n c : Nat) (ha : 0 < n → ao = some ⟨b, off, none⟩) (f : Nat → ByteArray) (x : ByteArray) (w : World) (hn : n ≤ 9223372036854775807)
    (hc : ∀ i, i < n → w.cell? ⟨b, off + i, none⟩ = some (.string (f i))) :
    Calls Tryf.prog 16 #[.slice ao n c, .string x] w fun e w' => e = .returned (.bool (has f x n)) ∧ w' = w := by
  go_enter Tryf.func16, Tryf.ntmps16
  go_wp2_with (go_at_call 20; refine (index_any ao b off n c ha f x _ hn hc).mono ?_; rintro e w2 ⟨z, rfl, hz, hw2⟩; replace hw2 := hw2.symm; subst hw2)
  go_ret
  exact ⟨rfl, rfl⟩

/-- zzSameStrings, at two rows of the same strings. -/
theorem same_any (ao bo : Option Addr) (b off b2 off2 n c c2 : Nat) (ha : 0 < n → ao = some ⟨b, off, none⟩) (hb : 0 < n → bo = some ⟨b2, off2, none⟩) (f g : Nat → ByteArray) (w : World) (hn : n ≤ 9223372036854775807)
    (hc : ∀ i, i < n → w.cell? ⟨b, off + i, none⟩ = some (.string (f i))) (hd : ∀ i, i < n → w.cell? ⟨b2, off2 + i, none⟩ = some (.string (g i))) (hfg : ∀ i, i < n → ((f i).toList == (g i).toList) = true) :
    Calls Tryf.prog 10 #[.slice ao n c, .slice bo n c2] w fun e w' => e = .returned (.bool true) ∧ ∃ q, w' = w.drewN q := by
  go_enter Tryf.func10, Tryf.ntmps10
  go_wp2
  go_loopw [5] (fun i wr => ∃ k q : Nat, k ≤ n ∧ i = .int .i64 k ∧ wr = w.drewN q) (fun i _ => n - (intOf i).toNat)
  case atStart => exact ⟨0, 0, by omega, rfl, rfl⟩
  case round =>
    obtain ⟨k, q, hk, rfl, rfl⟩ := hrel
    by_cases hlt : k < n
    · obtain rfl := ha (by omega)
      obtain rfl := hb (by omega)
      have hck := hc k hlt
      have hdk := hd k hlt
      have hfk := hfg k hlt
      have hkn : (k : Int) < (n : Int) := by omega
      clear hc hd hfg ha hb
      go_wp2
      go_quiet (fail)
      go_wp2
      go_roundw
      case rel => exact ⟨k + 1, _, by omega, by go_num, rfl⟩
      case measure => simp [intOf]; omega
    · obtain rfl : k = n := by omega
      go_wp2
      go_ret
      exact ⟨rfl, _, rfl⟩

def IsInt (e : Ending) : Prop := ∃ z : Int, e = .returned (.int .i64 z)
def IsBool (e : Ending) : Prop := ∃ z : Bool, e = .returned (.bool z)
/-- zzStringsBytes: some number. -/
theorem sbytes_any (ao : Option Addr) (b off n c : Nat) (ha : 0 < n → ao = some ⟨b, off, none⟩) (f : Nat → ByteArray) (t : Int) (w : World) (hn : n ≤ 9223372036854775807)
    (hc : ∀ i, i < n → w.cell? ⟨b, off + i, none⟩ = some (.string (f i))) :
    Calls Tryf.prog 6 #[.slice ao n c, .int .i64 t] w fun e w' => IsInt e ∧ w' = w := by
  go_enter Tryf.func6, Tryf.ntmps6
  go_wp2
  go_loop [1, 5] (fun t i => ∃ (k : Nat) (z : Int), k ≤ n ∧ i = .int .i64 k ∧ t = .int .i64 z) (fun _ i => n - (intOf i).toNat)
  case atStart => exact ⟨0, _, by omega, rfl, rfl⟩
  case round =>
    obtain ⟨k, z, hk, rfl, rfl⟩ := hrel
    by_cases hlt : k < n
    · obtain rfl := ha (by omega)
      have hck := hc k hlt
      have hkn : (k : Int) < (n : Int) := by omega
      clear hc ha
      go_wp2
      · go_ret
        exact ⟨⟨_, rfl⟩, rfl⟩
      · go_round
        case rel => exact ⟨k + 1, _, by omega, by go_num, rfl⟩
        case measure => simp [intOf]; omega
    · obtain rfl : k = n := by omega
      go_wp2
      go_ret
      exact ⟨⟨_, rfl⟩, rfl⟩

/-- zzBytes of the first law: some bool. -/
theorem bytes5_any (s0 s1 : ByteArray) (no : Option Addr) (nl nc : Nat) (ao : Option Addr) (b off n c : Nat) (ha : 0 < n → ao = some ⟨b, off, none⟩) (f : Nat → ByteArray) (w : World) (hn : n ≤ 9223372036854775807)
    (hc : ∀ i, i < n → w.cell? ⟨b, off + i, none⟩ = some (.string (f i))) :
    Calls Tryf.prog 5 #[.string s0, .string s1, .slice no nl nc, .slice ao n c] w fun e w' => IsBool e ∧ w' = w := by
  go_enter Tryf.func5, Tryf.ntmps5
  go_wp2
  all_goals try (go_ret; exact ⟨⟨_, rfl⟩, rfl⟩)
  go_loop [9, 10] (fun t i => ∃ (k : Nat) (z : Int), k ≤ n ∧ i = .int .i64 k ∧ t = .int .i64 z) (fun _ i => n - (intOf i).toNat)
  case atStart => exact ⟨0, _, by omega, rfl, rfl⟩
  case round =>
    obtain ⟨k, z, hk, rfl, rfl⟩ := hrel
    by_cases hlt : k < n
    · obtain rfl := ha (by omega)
      have hck := hc k hlt
      have hkn : (k : Int) < (n : Int) := by omega
      clear hc ha
      go_wp2
      all_goals first | (go_ret; exact ⟨⟨_, rfl⟩, rfl⟩) | skip
      go_round
      case rel => exact ⟨k + 1, _, by omega, by go_num, rfl⟩
      case measure => simp [intOf]; omega
    · obtain rfl : k = n := by omega
      go_wp2
      go_ret
      exact ⟨⟨_, rfl⟩, rfl⟩

/-- zzBytes of the second law: some bool. -/
theorem bytes13_any (s0 s1 s6 : ByteArray) (n1 n2 : Int) (no : Option Addr) (nl nc : Nat) (ao : Option Addr) (b off n c : Nat) (ha : 0 < n → ao = some ⟨b, off, none⟩) (f : Nat → ByteArray) (w : World) (hn : n ≤ 9223372036854775807)
    (hc : ∀ i, i < n → w.cell? ⟨b, off + i, none⟩ = some (.string (f i))) :
    Calls Tryf.prog 13 #[.string s0, .string s1, .slice no nl nc, .slice ao n c, .int .i64 n1, .int .i64 n2, .string s6] w fun e w' => IsBool e ∧ w' = w := by
  go_enter Tryf.func13, Tryf.ntmps13
  go_wp2
  all_goals try (go_ret; exact ⟨⟨_, rfl⟩, rfl⟩)
  go_loop [15, 16] (fun t i => ∃ (k : Nat) (z : Int), k ≤ n ∧ i = .int .i64 k ∧ t = .int .i64 z) (fun _ i => n - (intOf i).toNat)
  case atStart => exact ⟨0, _, by omega, rfl, rfl⟩
  case round =>
    obtain ⟨k, z, hk, rfl, rfl⟩ := hrel
    by_cases hlt : k < n
    · obtain rfl := ha (by omega)
      have hck := hc k hlt
      have hkn : (k : Int) < (n : Int) := by omega
      clear hc ha
      go_wp2
      all_goals first | (go_ret; exact ⟨⟨_, rfl⟩, rfl⟩) | skip
      go_round
      case rel => exact ⟨k + 1, _, by omega, by go_num, rfl⟩
      case measure => simp [intOf]; omega
    · obtain rfl : k = n := by omega
      go_wp2
      all_goals (go_ret; exact ⟨⟨_, rfl⟩, rfl⟩)
end Go.Proofs.Qxb6619025aFmt
