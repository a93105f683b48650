import Derived.Test.Qxb6616935aSipD
import Derived.Deep.Light
namespace Go.Proofs.Qxb6616935a
open Go.RowKit
set_option linter.unusedVariables false

def lenV : Value → Nat | .slice _ n _ => n | _ => 0

theorem word_lo (f : Nat → Int) (n j : Nat) (h : 8 * j + 8 ≤ n) : word f n j = le8 f (8 * j) := by
  unfold word; rw [if_pos (by omega)]
theorem word_hi (f : Nat → Int) (n : Nat) : word f n (n / 8) = lastW f n := by
  unfold word; rw [if_neg (by omega)]
theorem run_step {W : Nat → Int} {s0 s : St} {j : Nat} {m : Int} (h : run W s0 j = s) (hm : W j = m) : run W s0 (j + 1) = absorb m s := by
  subst h hm; rfl
theorem shl8 (t : Nat) (ht : t ≤ 6) (x : Int) (h0 : 0 ≤ x) (h1 : x ≤ 255) : IntKind.u64.wrap (x * 2 ^ (8 * t)) = x * 256 ^ t := by
  rw [IntKind.wrap_u64]
  rcases (by omega : t = 0 ∨ t = 1 ∨ t = 2 ∨ t = 3 ∨ t = 4 ∨ t = 5 ∨ t = 6) with rfl | rfl | rfl | rfl | rfl | rfl | rfl <;> simp <;> omega
theorem len_top (n : Nat) : IntKind.u64.wrap ((n : Int) * 72057594037927936) = ((n : Int) % 256) * 72057594037927936 := by
  rw [IntKind.wrap_u64]; omega

set_option maxHeartbeats 1600000 in
set_option maxRecDepth 100000 in
theorem sip_t (k0 k1 : Int) (ao : Option Addr) (g o n c : Nat) (ha : 0 < n → ao = some ⟨g, o, none⟩) (f : Nat → Int) (hb : ∀ i, 0 ≤ f i ∧ f i ≤ 255) (w : World) (hn : n ≤ 1048576) (hnc : n ≤ c) (hcm : c ≤ 9223372036854775807)
    (hc : ∀ i, i < n → w.cell? ⟨g, o + i, none⟩ = some (.int .u8 (f i))) :
    Calls Try.prog 24 #[.int .u64 k0, .int .u64 k1, .slice ao n c] w fun e w' => e = .returned (.int .u64 (sip k0 k1 f n)) ∧ Below w.heap.size w w' := by
  go_enter Try.func24, Try.ntmps24
  go_wp2
  go_loopw [2, 7, 8, 9, 10] (fun b v0 v1 v2 v3 wr => ∃ (j : Nat) (q : Option Addr), 8 * j ≤ n ∧ (8 * j < n → q = some ⟨g, o + 8 * j, none⟩) ∧ b = .slice q (n - 8 * j) (c - 8 * j) ∧ v0 = .int .u64 (run (word f n) (init k0 k1) j).a ∧ v1 = .int .u64 (run (word f n) (init k0 k1) j).b ∧ v2 = .int .u64 (run (word f n) (init k0 k1) j).c ∧ v3 = .int .u64 (run (word f n) (init k0 k1) j).d ∧ Below w.heap.size w wr) (fun b _ _ _ _ _ => lenV b)
  case atStart => exact ⟨0, ao, by omega, by simpa using ha, by simp, rfl, rfl, rfl, rfl, Below.refl _ _⟩
  case round =>
    obtain ⟨j, q, hj, hoff, rfl, rfl, rfl, rfl, rfl, hbel⟩ := hrel
    by_cases hlt : 8 * j + 8 ≤ n
    · obtain rfl := hoff (by omega)
      clear hoff
      have hcr : ∀ i, i < 8 → wr.cell? ⟨g, o + 8 * j + i, none⟩ = some (.int .u8 (f (8 * j + i))) := by
        intro i hi
        have h := hc (8 * j + i) (by omega)
        rw [Nat.add_assoc, hbel.cell (cell_lt h)]; exact h
      have h8 : (8 : Int) ≤ ((n - 8 * j : Nat) : Int) := by omega
      have h8' : (8 : Int) ≤ ((c - 8 * j : Nat) : Int) := by omega
      have h9 : n - 8 * j ≤ c - 8 * j := by omega
      have hsz := hbel.size
      generalize hs : run (word f n) (init k0 k1) j = s
      have HS : Hid (run (word f n) (init k0 k1) j = s) := hs
      clear hs
      obtain ⟨a, b, cc, d⟩ := s
      simp only
      go_wp2_with (first | (go_at_call 27; refine (le_any _ _ _ _ (8 * j) f hb _ (by omega) hcr).mono ?_; rintro e w2 ⟨rfl, hb2⟩) | (go_at_call 28; refine (round_t _ _ _ _ _).mono ?_; rintro e w' ⟨rfl, rfl⟩))
      go_roundw
      case rel =>
        have e1 := run_step HS.out (word_lo f n j hlt)
        by_cases h8c : c - 8 * j = 8
        · exact ⟨j + 1, some ⟨g, o + 8 * j, none⟩, by omega, by omega, by rw [if_pos h8c]; congr 1 <;> omega, by rw [e1]; rfl, by rw [e1]; rfl, by rw [e1]; rfl, by rw [e1]; rfl, hbel.trans (hb2.mono hsz)⟩
        · exact ⟨j + 1, some ⟨g, o + 8 * j + 8, none⟩, by omega, fun _ => rfl, by rw [if_neg h8c]; congr 1 <;> omega, by rw [e1]; rfl, by rw [e1]; rfl, by rw [e1]; rfl, by rw [e1]; rfl, hbel.trans (hb2.mono hsz)⟩
      case measure => simp [lenV]; omega
    · have hjn : j = n / 8 := by omega
      subst hjn
      have hln : n - 8 * (n / 8) = n % 8 := by omega
      rw [hln]
      clear hln
      go_wp2
      go_loop [11, 58] (fun l i => ∃ t : Nat, t ≤ n % 8 ∧ i = .int .i64 t ∧ l = .int .u64 (((n : Int) % 256) * 72057594037927936 + part f (8 * (n / 8)) t)) (fun _ i => n % 8 - (intOf i).toNat)
      case atStart => exact ⟨0, by omega, rfl, by rw [len_top]; simp [part]⟩
      case round =>
        obtain ⟨t, ht, rfl, rfl⟩ := hrel
        by_cases htl : t < n % 8
        · obtain rfl := hoff (by omega)
          have hcell : wr.cell? ⟨g, o + 8 * (n / 8) + t, none⟩ = some (.int .u8 (f (8 * (n / 8) + t))) := by
            have h := hc (8 * (n / 8) + t) (by omega)
            rw [Nat.add_assoc, hbel.cell (cell_lt h)]; exact h
          have hpb := part_bd f (8 * (n / 8)) hb t
          have hfb := hb (8 * (n / 8) + t)
          have hor := or_mid t (by omega) ((n : Int) % 256) (part f (8 * (n / 8)) t) (f (8 * (n / 8) + t)) (by omega) (by omega) hpb.1 hpb.2 hfb.1 hfb.2
          have hpart : part f (8 * (n / 8)) t + f (8 * (n / 8) + t) * 256 ^ t = part f (8 * (n / 8)) (t + 1) := rfl
          rw [hpart] at hor
          have HO : Hid (_ = _) := hor
          clear hor hpart hpb
          have htl' : (t : Int) < ((n % 8 : Nat) : Int) := by omega
          generalize part f (8 * (n / 8)) t = P at *
          generalize f (8 * (n / 8) + t) = x at *
          go_wp2
          go_round
          case rel => exact ⟨t + 1, by omega, by go_num, by rw [shl8 t (by omega) x hfb.1 hfb.2, HO.out]⟩
          case measure => simp [intOf]; omega
        · have htn : t = n % 8 := by omega
          subst htn
          have e1 := run_step (W := word f n) (s0 := init k0 k1) rfl (word_hi f n)
          have HF : Hid (sip k0 k1 f n = fin (absorb (lastW f n) (run (word f n) (init k0 k1) (n / 8)))) := by unfold Hid sip; rw [e1]
          clear e1
          have eL : ((n : Int) % 256) * 72057594037927936 + part f (8 * (n / 8)) (n % 8) = lastW f n := rfl
          rw [eL]
          generalize run (word f n) (init k0 k1) (n / 8) = s at *
          generalize lastW f n = m at *
          obtain ⟨a, b, cc, d⟩ := s
          go_wp2_with (go_at_call 28; refine (round_t _ _ _ _ _).mono ?_; rintro e w' ⟨rfl, rfl⟩)
          go_ret
          exact ⟨by rw [HF.out]; rfl, hbel⟩
end Go.Proofs.Qxb6616935a
