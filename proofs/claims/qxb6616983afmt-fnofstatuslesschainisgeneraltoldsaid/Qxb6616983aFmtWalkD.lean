import Derived.Test.Qxb6616983aFmtWalkC
namespace Go.Proofs.Qxb6616983aFmt
open Go.RowKit Go.Extern.Stop Go.Stop Go.Extern
set_option linter.unusedVariables false

theorem top_big (s : ByteArray) (d : Int) (w : World) (hs : s.size ≤ 9223372036854775807) (h : 1048576 < s.size) :
    Calls Tryf.prog 3 #[.string s, .int .i64 d] w fun e w' => e = .returned (.bool true) ∧ Below w.heap.size w w' := by
  have hd : decide (s.size ≤ 1048576) = false := decide_eq_false (by omega)
  go_enter Tryf.func3, Tryf.ntmps3
  go_wp2_with (go_at_call 4; refine (bytes_any _ _ _ hs).mono ?_; rintro e w1 ⟨rfl, hw1⟩; replace hw1 := hw1.symm; subst hw1)
  go_ret
  exact ⟨rfl, Below.refl _ _⟩
theorem top_long (s : ByteArray) (d : Int) (w : World) (hs : s.size ≤ 1048576) (h : 65536 < s.size) :
    Calls Tryf.prog 3 #[.string s, .int .i64 d] w fun e w' => e = .returned (.bool true) ∧ Below w.heap.size w w' := by
  have hd : decide (s.size ≤ 1048576) = true := decide_eq_true hs
  have h1 : (65536 : Int) < (s.size : Int) := by omega
  go_enter Tryf.func3, Tryf.ntmps3
  go_wp2_with (go_at_call 4; refine (bytes_any _ _ _ (by omega)).mono ?_; rintro e w1 ⟨rfl, hw1⟩; replace hw1 := hw1.symm; subst hw1)
  go_ret
  exact ⟨rfl, Below.refl _ _⟩
theorem top_low (s : ByteArray) (d : Int) (w : World) (hs : s.size ≤ 65536) (h : d < 0) :
    Calls Tryf.prog 3 #[.string s, .int .i64 d] w fun e w' => e = .returned (.bool true) ∧ Below w.heap.size w w' := by
  have hd : decide (s.size ≤ 1048576) = true := decide_eq_true (by omega)
  have h1 : ¬ (65536 : Int) < (s.size : Int) := by omega
  go_enter Tryf.func3, Tryf.ntmps3
  go_wp2_with (go_at_call 4; refine (bytes_any _ _ _ (by omega)).mono ?_; rintro e w1 ⟨rfl, hw1⟩; replace hw1 := hw1.symm; subst hw1)
  go_ret
  exact ⟨rfl, Below.refl _ _⟩
theorem top_high (s : ByteArray) (d : Int) (w : World) (hs : s.size ≤ 65536) (h0 : ¬ d < 0) (h : 64 < d) :
    Calls Tryf.prog 3 #[.string s, .int .i64 d] w fun e w' => e = .returned (.bool true) ∧ Below w.heap.size w w' := by
  have hd : decide (s.size ≤ 1048576) = true := decide_eq_true (by omega)
  have h1 : ¬ (65536 : Int) < (s.size : Int) := by omega
  go_enter Tryf.func3, Tryf.ntmps3
  go_wp2_with (go_at_call 4; refine (bytes_any _ _ _ (by omega)).mono ?_; rintro e w1 ⟨rfl, hw1⟩; replace hw1 := hw1.symm; subst hw1)
  go_ret
  exact ⟨rfl, Below.refl _ _⟩

theorem plain_start (s : ByteArray) (w : World) : Chain (w.alloc (.cells #[.string s] 49)) 0 (.iface 47 (.pointer (some ⟨w.heap.size, 0, none⟩))) :=
  ⟨_, s, rfl, by simp [go_sem]⟩
theorem wrap_next {w : World} {k : Nat} {v : Value} {m : ByteArray} {o : Obj} (h : Chain w k v) :
    Chain ((w.alloc o).alloc (.cells #[.string m, v] 85)).drew (k + 1) (.iface 51 (.pointer (some ⟨w.heap.size + 1, 0, none⟩))) :=
  ⟨_, m, v, rfl, by simp [go_sem], by simp [go_sem], h.keep ((((Below.refl _ _).alloc (Nat.le_refl _) _).alloc (by simp) _).drew)⟩

set_option maxHeartbeats 800000 in
theorem top_mid (F : Interp) (s : ByteArray) (n : Nat) (w : World) (hF : F.answers w.tape) (hs : s.size ≤ 65536) (h : n ≤ 64) (hg : w.cell? ⟨0, 0, none⟩ = some (.iface 53 (.agg #[.pointer (some ⟨1, 25, none⟩)]))) :
    Calls Tryf.prog 3 #[.string s, .int .i64 n] w fun e w' => e = .returned (.bool true) ∧ Below w.heap.size w w' := by
  have hd : decide (s.size ≤ 1048576) = true := decide_eq_true (by omega)
  have h1 : ¬ (65536 : Int) < (s.size : Int) := by omega
  have h2 : ¬ (n : Int) < 0 := by omega
  have h3 : ¬ (64 : Int) < (n : Int) := by omega
  have hlt : 0 < w.heap.size := cell_lt hg
  go_enter Tryf.func3, Tryf.ntmps3
  go_wp2_with (first | (go_at_call 4; refine (bytes_any _ _ _ (by omega)).mono ?_; rintro e w1 ⟨rfl, hw1⟩; replace hw1 := hw1.symm; subst hw1) | (go_at_call 5; refine (of_nil _).mono ?_; rintro e w1 ⟨rfl, hw1⟩; replace hw1 := hw1.symm; subst hw1) | (go_at_call 6; refine (plain_any _ _).mono ?_; rintro e w1 ⟨rfl, hw1⟩; replace hw1 := hw1.symm; subst hw1))
  go_loopw [5, 6] (fun v i wr => ∃ k : Nat, k ≤ n ∧ i = .int .i64 k ∧ Chain wr k v ∧ Below w.heap.size w wr) (fun _ i _ => n - (intOf i).toNat)
  case atStart => exact ⟨0, by omega, rfl, plain_start s w, (Below.refl _ _).alloc (Nat.le_refl _) _⟩
  case round =>
    obtain ⟨k, hk, rfl, hch, hbel⟩ := hrel
    have hFr : F.answers wr.tape := by rw [hbel.tape]; exact hF
    have hsz := hbel.size
    by_cases hkn : k < n
    · have hki : (k : Int) < (n : Int) := by omega
      have HV : Hid (Chain wr k _) := hch
      rcases k with _ | k
      · obtain ⟨a, t, rfl, hc⟩ := hch
        go_wp2_with (go_at_call 7; refine (wrap47 F a t _ (by exact hFr) hc).mono ?_; rintro e w2 ⟨m, rfl, hw2⟩; replace hw2 := hw2.symm; subst hw2)
        go_roundw
        case rel => exact ⟨0 + 1, by omega, by go_num, wrap_next HV.out, hbel.trans (((Below.refl _ _).alloc hsz _).alloc (by simp; omega) _).drew⟩
        case measure => simp [intOf]; omega
      · obtain ⟨b, t, u, rfl, hc, hc1, hu⟩ := hch
        go_wp2_with (go_at_call 7; refine (wrap51 F ⟨b, 0, none⟩ t _ (by exact hFr) hc).mono ?_; rintro e w2 ⟨m, rfl, hw2⟩; replace hw2 := hw2.symm; subst hw2)
        go_roundw
        case rel => exact ⟨k + 1 + 1, by omega, by go_num, wrap_next HV.out, hbel.trans (((Below.refl _ _).alloc hsz _).alloc (by simp; omega) _).drew⟩
        case measure => simp [intOf]; omega
    · have hki : ¬ (k : Int) < (n : Int) := by omega
      have hgr : wr.cell? ⟨0, 0, none⟩ = some (.iface 53 (.agg #[.pointer (some ⟨1, 25, none⟩)])) := by rw [hbel.cell hlt]; exact hg
      have HV : Hid (Chain wr k _) := hch
      obtain ⟨tv, av, rfl⟩ := hch.form
      clear hch
      go_wp2_with (go_at_call 5; refine (of_chain k _ _ HV.out hgr).mono ?_; rintro e w2 ⟨rfl, hb2⟩)
      go_ret
      exact ⟨rfl, hbel.trans (hb2.mono hsz)⟩
end Go.Proofs.Qxb6616983aFmt
