import Derived.Test.Qxb6616935aSipI
import Derived.Lib.SliceRun
import Derived.Deep.RegionHeld3
namespace Go.Proofs.Qxb6616935a
open Go.RowKit
set_option linter.unusedVariables false
def paperf (i : Nat) : Int := if i < 15 then (i : Int) else 0
theorem paper_vec : sip 506097522914230528 1084818905618843912 paperf 15 = 11613035633349379557 := by decide +kernel
theorem paper_bd (i : Nat) : 0 ≤ paperf i ∧ paperf i ≤ 255 := by unfold paperf; split <;> omega

/-- What the paper's row holds behind k rounds. -/
def PaperAt (w : World) (B k : Nat) : Prop := ∀ i, i < 15 → w.cell? ⟨B, i, none⟩ = some (.int .u8 (if i < k then (i : Int) else 0)) ∧ w.frozen? ⟨B, i, none⟩ = false
theorem PaperAt.set {w : World} {B k : Nat} (h : PaperAt w B k) (hk : k < 15) : PaperAt (w.setCell ⟨B, k, none⟩ (.int .u8 (k : Int))) B (k + 1) := by
  intro i hi
  obtain ⟨h1, h2⟩ := h i hi
  refine ⟨?_, by rw [World.frozen?_setCell]; exact h2⟩
  by_cases hik : i = k
  · subst hik
    rw [World.cell?_setCell_same _ _ _ h1, if_pos (by omega)]
  · rw [World.cell?_setCell_other _ _ _ _ (by simp), h1]
    by_cases h3 : i < k
    · rw [if_pos h3, if_pos (by omega)]
    · rw [if_neg h3, if_neg (by omega)]

theorem paper_start (w : World) : PaperAt (w.alloc (.cells #[.int .u8 0, .int .u8 0, .int .u8 0, .int .u8 0, .int .u8 0, .int .u8 0, .int .u8 0, .int .u8 0, .int .u8 0, .int .u8 0, .int .u8 0, .int .u8 0, .int .u8 0, .int .u8 0, .int .u8 0] 25)) w.heap.size 0 := by
  intro i hi
  refine ⟨?_, World.frozen?_alloc_new w _ _ i⟩
  rw [World.cell?_alloc_new, if_neg (by omega)]
  rcases (by omega : i = 0 ∨ i = 1 ∨ i = 2 ∨ i = 3 ∨ i = 4 ∨ i = 5 ∨ i = 6 ∨ i = 7 ∨ i = 8 ∨ i = 9 ∨ i = 10 ∨ i = 11 ∨ i = 12 ∨ i = 13 ∨ i = 14) with rfl | rfl | rfl | rfl | rfl | rfl | rfl | rfl | rfl | rfl | rfl | rfl | rfl | rfl | rfl <;> rfl

set_option maxHeartbeats 1600000 in
set_option maxRecDepth 100000 in
theorem top_nil (k0 k1 : Int) (w : World) :
    Calls Try.prog 3 #[.int .u64 k0, .int .u64 k1, .slice none 0 0] w fun e w' => e = .returned (.bool true) ∧ Below w.heap.size w w' := by
  have q1 : ∀ (w : World) (a : Option Addr) (n c n' c' : Nat), (binOp .eql 23 (.slice a n c) (.slice none n' c')).run Try.prog w = .ok (.bool a.isNone) w := fun w a n c n' c' => Lib.run_eql_slice_nil w _ _ a n c n' c' Try.underlying23
  have q2 : ∀ (w : World) (a : Option Addr) (n c n' c' : Nat), (binOp .neq 23 (.slice a n c) (.slice none n' c')).run Try.prog w = .ok (.bool (!a.isNone)) w := fun w a n c n' c' => run_neq_slice_nil_any w _ _ a n c n' c' Try.underlying23
  go_enter Try.func3, Try.ntmps3
  go_wp2_with (go_at_call 6; refine (bytes_any _ _ _ _ _ (by decide) _).mono ?_; rintro e w1 ⟨rfl, hw1⟩; replace hw1 := hw1.symm; subst hw1)
  go_loopw [8] (fun i wr => ∃ k : Nat, k ≤ 15 ∧ i = .int .i64 k ∧ PaperAt wr w.heap.size k ∧ Below w.heap.size w wr ∧ wr.heap.size = w.heap.size + 1) (fun i _ => 15 - (intOf i).toNat)
  case atStart => exact ⟨0, by omega, rfl, paper_start w, (Below.refl _ _).alloc (Nat.le_refl _) _, by simp⟩
  case round =>
    obtain ⟨k, hk, rfl, hP, hB, hs⟩ := hrel
    by_cases hlt : k < 15
    · obtain ⟨hc, hf⟩ := hP k hlt
      have HS : Hid (wr.heap.size = w.heap.size + 1) := hs
      clear hs
      have hk0 : (k : Int) < 15 := by omega
      go_wp2
      go_roundw
      case rel => exact ⟨k + 1, by omega, by go_num, hP.set hlt, hB.setCell (by simp) _, by rw [← HS.out]; simp [World.setCell]⟩
      case measure => simp [intOf]; omega
    · obtain rfl : k = 15 := by omega
      have hcp : ∀ i, i < 15 → wr.cell? ⟨w.heap.size, 0 + i, none⟩ = some (.int .u8 (paperf i)) := fun i hi => by rw [Nat.zero_add]; exact (hP i hi).1
      have hv := paper_vec
      go_wp2_with (first | (go_at_call 7; refine (model_any _ _ (some ⟨w.heap.size, 0, none⟩) w.heap.size 0 15 15 (fun _ => rfl) paperf paper_bd _ (by decide) hcp).mono ?_; rintro e w2 ⟨rfl, hb2⟩) | (go_at_call 8; refine (order_any _ _ _).mono ?_; rintro e w3 ⟨rfl, hb3⟩) | (go_at_call 9; refine (of_any k0 k1 none 0 0 0 0 (by omega) (fun _ => 0) (fun _ => by omega) _ (by decide) (by decide) (by decide) (fun i hi => by omega)).mono ?_; rintro e w4 ⟨rfl, hb4⟩))
      have hz2 := hb2.size
      have hz3 := hb3.size
      have hz4 := hb4.size
      have hB5 : Below w.heap.size w (w4.alloc (.cells #[.int .u64 (sip k0 k1 (fun _ => 0) 0), .slice none 0 0] 28)) :=
        ((((hB.trans (hb2.mono (by omega))).trans (hb3.mono (by omega))).trans (hb4.mono (by omega))).alloc (by omega) _)
      generalize hW5 : w4.alloc (.cells #[.int .u64 (sip k0 k1 (fun _ => 0) 0), .slice none 0 0] 28) = W5 at *
      have g0 : W5.cell? ⟨w4.heap.size, 0, none⟩ = some (.int .u64 (sip k0 k1 (fun _ => 0) 0)) := by rw [← hW5]; simp [go_sem]
      have hz5 : w4.heap.size < W5.heap.size := by rw [← hW5]; simp
      clear hW5 hb2 hb3 hb4 hB hs hP hcp
      go_loop [11] (fun i => i = .int .i64 0) (fun _ => 0)
      case atStart => rfl
      case round =>
        subst hrel
        go_wp2
        go_region_held3 (fun w' => w'.cell? ⟨w4.heap.size, 0, none⟩ = some (.int .u64 (sip k0 k1 (fun _ => 0) 0))) (first | (rw [hb6.cell (by simpa using hz5)]; simpa [go_sem] using g0) | go_keep)
          (first | (go_at_call 7; refine (model_any k0 k1 none 0 0 0 0 (by omega) (fun _ => 0) (fun _ => by omega) _ (by decide) (fun i hi => by omega)).mono ?_; rintro e w6 ⟨rfl, hb6⟩; have hc6 := (bcell hb6).1))
        all_goals go_wp2
        all_goals go_ret
        all_goals exact ⟨rfl, hB5.drew.trans (hb6.mono (by have := hB5.size; simpa using this))⟩

theorem key_later {w w' : World} {g o n : Nat} {f : Nat → Int} (hc : ∀ i, i < n → w.cell? ⟨g, o + i, none⟩ = some (.int .u8 (f i))) (hb : Below w.heap.size w w') : ∀ i, i < n → w'.cell? ⟨g, o + i, none⟩ = some (.int .u8 (f i)) := fun i hi => by
  rw [hb.cell (cell_lt (hc i hi))]; exact hc i hi
theorem in_later {w w' : World} {g n : Nat} {f : Nat → Int} (hc : ∀ i, i < n → w.cell? ⟨g, i, none⟩ = some (.int .u8 (if i < n then f i else 0))) (hb : Below w.heap.size w w') : ∀ i, i < n → w'.cell? ⟨g, 0 + i, none⟩ = some (.int .u8 (f i)) := fun i hi => by
  rw [Nat.zero_add, hb.cell (cell_lt (hc i hi)), hc i hi, if_pos hi]

theorem top_big (k0 k1 : Int) (ao : Option Addr) (n c : Nat) (hn : n ≤ 9223372036854775807) (h : 1048576 < n) (w : World) :
    Calls Try.prog 3 #[.int .u64 k0, .int .u64 k1, .slice ao n c] w fun e w' => e = .returned (.bool true) ∧ Below w.heap.size w w' := by
  have hd : decide (n ≤ 1048576) = false := decide_eq_false (by omega)
  go_enter Try.func3, Try.ntmps3
  go_wp2_with (go_at_call 6; refine (bytes_any _ _ _ _ _ hn _).mono ?_; rintro e w1 ⟨rfl, hw1⟩; replace hw1 := hw1.symm; subst hw1)
  go_ret
  exact ⟨rfl, Below.refl _ _⟩

set_option maxHeartbeats 1600000 in
set_option maxRecDepth 100000 in
theorem top_some (k0 k1 : Int) (x : Addr) (g o n c : Nat) (ha : 0 < n → some x = some ⟨g, o, none⟩) (f : Nat → Int) (hb : ∀ i, 0 ≤ f i ∧ f i ≤ 255) (hn : n ≤ 1048576) (w : World)
    (hc : ∀ i, i < n → w.cell? ⟨g, o + i, none⟩ = some (.int .u8 (f i))) :
    Calls Try.prog 3 #[.int .u64 k0, .int .u64 k1, .slice (some x) n c] w fun e w' => e = .returned (.bool true) ∧ Below w.heap.size w w' := by
  have q1 : ∀ (w : World) (a : Option Addr) (n c n' c' : Nat), (binOp .eql 23 (.slice a n c) (.slice none n' c')).run Try.prog w = .ok (.bool a.isNone) w := fun w a n c n' c' => Lib.run_eql_slice_nil w _ _ a n c n' c' Try.underlying23
  have q2 : ∀ (w : World) (a : Option Addr) (n c n' c' : Nat), (binOp .neq 23 (.slice a n c) (.slice none n' c')).run Try.prog w = .ok (.bool (!a.isNone)) w := fun w a n c n' c' => run_neq_slice_nil_any w _ _ a n c n' c' Try.underlying23
  have hmk := Go.run_make_row' (P := Try.prog) 23 5 (.int .u8 0) 1 Try.underlying23 info5 rfl .i64 .i64 n (by omega) (by omega)
  have hnd : ¬ (1048576 : Int) < (n : Int) := by omega
  have hdd : decide (n ≤ 1048576) = true := decide_eq_true hn
  have HC : Hid (∀ i, i < n → w.cell? ⟨g, o + i, none⟩ = some (.int .u8 (f i))) := hc
  have HA : Hid (0 < n → some x = some ⟨g, o, none⟩) := ha
  clear hc ha
  go_enter Try.func3, Try.ntmps3
  go_wp2_with (go_at_call 6; refine (bytes_any _ _ _ _ _ (by omega) _).mono ?_; rintro e w1 ⟨rfl, hw1⟩; replace hw1 := hw1.symm; subst hw1)
  go_loopw [8] (fun i wr => ∃ k : Nat, k ≤ 15 ∧ i = .int .i64 k ∧ PaperAt wr w.heap.size k ∧ Below w.heap.size w wr ∧ wr.heap.size = w.heap.size + 1) (fun i _ => 15 - (intOf i).toNat)
  case atStart => exact ⟨0, by omega, rfl, paper_start w, (Below.refl _ _).alloc (Nat.le_refl _) _, by simp⟩
  case round =>
    obtain ⟨k, hk, rfl, hP, hB, hs⟩ := hrel
    by_cases hlt : k < 15
    · obtain ⟨hc, hf⟩ := hP k hlt
      have HS : Hid (wr.heap.size = w.heap.size + 1) := hs
      clear hs
      have hk0 : (k : Int) < 15 := by omega
      go_wp2
      go_roundw
      case rel => exact ⟨k + 1, by omega, by go_num, hP.set hlt, hB.setCell (by simp) _, by rw [← HS.out]; simp [World.setCell]⟩
      case measure => simp [intOf]; omega
    · obtain rfl : k = 15 := by omega
      have hcp : ∀ i, i < 15 → wr.cell? ⟨w.heap.size, 0 + i, none⟩ = some (.int .u8 (paperf i)) := fun i hi => by rw [Nat.zero_add]; exact (hP i hi).1
      have hv := paper_vec
      have HS : Hid (wr.heap.size = w.heap.size + 1) := hs
      clear hs
      go_wp2_with (first | (go_at_call 7; refine (model_any _ _ (some ⟨w.heap.size, 0, none⟩) w.heap.size 0 15 15 (fun _ => rfl) paperf paper_bd _ (by decide) hcp).mono ?_; rintro e w2 ⟨rfl, hb2⟩; clear hcp hP; obtain ⟨W3, hcpy, hsz3, hb3, hcell3, hfr3⟩ := copy_new w2 w2.heap.size rfl n n c g o (some x) HA.out f (Nat.le_refl n) (key_later HC.out (hB.trans (hb2.mono (by have := HS.out; omega)))); replace hcell3 : Hid (∀ i, i < n → _) := hcell3; clear hfr3) | (go_at_call 8; refine (order_any _ _ _).mono ?_; rintro e w3 ⟨rfl, hb4⟩) | (go_at_call 9; refine (of_any k0 k1 (some ⟨w2.heap.size, 0, none⟩) w2.heap.size 0 n n (fun _ => rfl) f hb _ hn (Nat.le_refl n) (by omega) (in_later hcell3.out hb4)).mono ?_; rintro e w4 ⟨rfl, hb5⟩))
      have hz2 := hb2.size
      have hz3 := hb3.size
      have hz4 := hb4.size
      have hz5 := hb5.size
      have hz := hB.size
      have hB2 := hB.trans (hb2.mono hz)
      have hB5 : Below w.heap.size w (w4.alloc (.cells #[.int .u64 (sip k0 k1 f n), .slice (some ⟨w2.heap.size, 0, none⟩) n n] 28)) :=
        ((((hB2.trans (hb3.mono (by omega))).trans (hb4.mono (by omega))).trans (hb5.mono (by omega))).alloc (by omega) _)
      have hin5 : ∀ i, i < n → (w4.alloc (.cells #[.int .u64 (sip k0 k1 f n), .slice (some ⟨w2.heap.size, 0, none⟩) n n] 28)).cell? ⟨w2.heap.size, i, none⟩ = some (.int .u8 (f i)) := fun i hi => by
        have h := in_later hcell3.out hb4 i hi
        rw [Nat.zero_add] at h
        have h4 := (hb5.cell (cell_lt h)).trans h
        exact cell_old _ h4
      generalize hW5 : w4.alloc (.cells #[.int .u64 (sip k0 k1 f n), .slice (some ⟨w2.heap.size, 0, none⟩) n n] 28) = W5 at *
      have g0 : W5.cell? ⟨w4.heap.size, 0, none⟩ = some (.int .u64 (sip k0 k1 f n)) := by rw [← hW5]; simp [go_sem]
      have g1 : W5.cell? ⟨w4.heap.size, 1, none⟩ = some (.slice (some ⟨w2.heap.size, 0, none⟩) n n) := by rw [← hW5]; simp [go_sem]
      have hz5 : w4.heap.size < W5.heap.size := by rw [← hW5]; simp
      have hk5 := key_later HC.out hB5
      have HI : Hid (∀ i, i < n → W5.cell? ⟨w2.heap.size, i, none⟩ = some (.int .u8 (f i))) := hin5
      have HK : Hid (∀ i, i < n → W5.cell? ⟨g, o + i, none⟩ = some (.int .u8 (f i))) := hk5
      clear hW5 hb2 hb3 hb4 hb5 hB hcpy hcell3 hin5 hk5 hmk hB2
      go_loopw [11] (fun i wr => ∃ (k q : Nat), k ≤ n ∧ i = .int .i64 k ∧ wr = W5.drewN q) (fun i _ => n - (intOf i).toNat)
      case atStart => exact ⟨0, 0, by omega, rfl, rfl⟩
      case round =>
        obtain ⟨k, q, hk, rfl, rfl⟩ := hrel
        by_cases hlt : k < n
        · obtain rfl : x = ⟨g, o, none⟩ := Option.some.inj (HA.out (by omega))
          have i1 := HI.out k hlt
          have i2 := HK.out k hlt
          have hkn : (k : Int) < (n : Int) := by omega
          go_wp2
          go_quiet (fail)
          go_wp2
          go_roundw
          case rel => exact ⟨k + 1, _, by omega, by go_num, rfl⟩
          case measure => simp [intOf]; omega
        · have hkn : ¬ (k : Int) < (n : Int) := by omega
          go_wp2
          go_region_held3 (fun w' => w'.cell? ⟨w4.heap.size, 0, none⟩ = some (.int .u64 (sip k0 k1 f n))) (first | (rw [hb6.cell (by simpa using hz5)]; simpa [go_sem] using g0) | go_keep) (first | (go_at_call 7; refine (model_any k0 k1 (some x) g o n c HA.out f hb (W5.drewN (q + 1)) hn (fun i hi => HK.out i hi)).mono ?_; rintro e w6 ⟨rfl, hb6⟩))
          all_goals go_wp2
          all_goals go_ret
          all_goals exact ⟨rfl, hB5.trans ((⟨rfl, rfl, rfl, Nat.le_refl _, fun _ _ => rfl⟩ : Below w.heap.size W5 (W5.drewN (q + 1))).trans (hb6.mono (by have := hB5.size; simpa using this)))⟩
end Go.Proofs.Qxb6616935a
