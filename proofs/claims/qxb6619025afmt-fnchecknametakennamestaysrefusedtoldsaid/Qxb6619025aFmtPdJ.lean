import Derived.Test.Qxb6619025aFmtPdI
namespace Go.Proofs.Qxb6619025aFmt
open Go.RowKit Go.Extern.Stop Go.Stop Go.Extern
set_option linter.unusedVariables false
attribute [local go_sem ↓] Go.wp_at_zero Go.wp_at_succ

/-- What the first law is handed: a slice of ints, a slice of strings. -/
structure Ins (w : World) (no : Option Addr) (nb noff nl : Nat) (nz : Nat → Int) (ao : Option Addr) (b off n : Nat) (f : Nat → ByteArray) : Prop where
  na : 0 < nl → no = some ⟨nb, noff, none⟩
  nc : ∀ i, i < nl → w.cell? ⟨nb, noff + i, none⟩ = some (.int .i64 (nz i))
  sa : 0 < n → ao = some ⟨b, off, none⟩
  sc : ∀ i, i < n → w.cell? ⟨b, off + i, none⟩ = some (.string (f i))
theorem Ins.keep {w w' : World} {no : Option Addr} {nb noff nl : Nat} {nz : Nat → Int} {ao : Option Addr} {b off n : Nat} {f : Nat → ByteArray} (h : Ins w no nb noff nl nz ao b off n f) (hb : Below w.heap.size w w') : Ins w' no nb noff nl nz ao b off n f :=
  ⟨h.na, fun i hi => by rw [hb.cell (cell_lt (h.nc i hi))]; exact h.nc i hi, h.sa, fun i hi => by rw [hb.cell (cell_lt (h.sc i hi))]; exact h.sc i hi⟩

set_option maxHeartbeats 1600000 in
theorem top3_big (s0 s1 : ByteArray) (no : Option Addr) (nb noff nl nc : Nat) (nz : Nat → Int) (ao : Option Addr) (b off n c : Nat) (f : Nat → ByteArray) (w : World) (hi : Ins w no nb noff nl nz ao b off n f) (hn : n ≤ 9223372036854775807)
    (hg : 65536 < s0.size ∨ 65536 < s1.size ∨ 4096 < nl ∨ 4096 < n ∨ nl ≠ n) :
    Calls Tryf.prog 3 #[.string s0, .string s1, .slice no nl nc, .slice ao n c] w fun e w' => e = .returned (.bool true) ∧ Below w.heap.size w w' := by
  by_cases g0 : (65536 : Int) < (s0.size : Int)
  · go_enter Tryf.func3, Tryf.ntmps3
    go_wp2_with (go_at_call 5; refine (bytes5_any s0 s1 no nl nc ao b off n c hi.sa f _ hn hi.sc).mono ?_; rintro e w1 ⟨⟨z, rfl⟩, hw1⟩; replace hw1 := hw1.symm; subst hw1)
    all_goals (go_ret; exact ⟨rfl, Below.refl _ _⟩)
  by_cases g1 : (65536 : Int) < (s1.size : Int)
  · go_enter Tryf.func3, Tryf.ntmps3
    go_wp2_with (go_at_call 5; refine (bytes5_any s0 s1 no nl nc ao b off n c hi.sa f _ hn hi.sc).mono ?_; rintro e w1 ⟨⟨z, rfl⟩, hw1⟩; replace hw1 := hw1.symm; subst hw1)
    all_goals (go_ret; exact ⟨rfl, Below.refl _ _⟩)
  by_cases g2 : (4096 : Int) < (nl : Int)
  · go_enter Tryf.func3, Tryf.ntmps3
    go_wp2_with (go_at_call 5; refine (bytes5_any s0 s1 no nl nc ao b off n c hi.sa f _ hn hi.sc).mono ?_; rintro e w1 ⟨⟨z, rfl⟩, hw1⟩; replace hw1 := hw1.symm; subst hw1)
    all_goals (go_ret; exact ⟨rfl, Below.refl _ _⟩)
  by_cases g3 : (4096 : Int) < (n : Int)
  · go_enter Tryf.func3, Tryf.ntmps3
    go_wp2_with (go_at_call 5; refine (bytes5_any s0 s1 no nl nc ao b off n c hi.sa f _ hn hi.sc).mono ?_; rintro e w1 ⟨⟨z, rfl⟩, hw1⟩; replace hw1 := hw1.symm; subst hw1)
    all_goals (go_ret; exact ⟨rfl, Below.refl _ _⟩)
  have g4 : ((nl : Int) == (n : Int)) = false := by simp; omega
  go_enter Tryf.func3, Tryf.ntmps3
  go_wp2_with (first | (go_at_call 5; refine (bytes5_any s0 s1 no nl nc ao b off n c hi.sa f _ hn hi.sc).mono ?_; rintro e w1 ⟨⟨z, rfl⟩, hw1⟩; replace hw1 := hw1.symm; subst hw1) | (go_at_call 6; refine (sbytes_any ao b off n c hi.sa f _ _ hn hi.sc).mono ?_; rintro e w1 ⟨⟨z2, rfl⟩, hw1⟩; replace hw1 := hw1.symm; subst hw1))
  all_goals (go_ret; exact ⟨rfl, Below.refl _ _⟩)

set_option maxHeartbeats 3200000 in
theorem top3_mid (F : Interp) (s0 s1 : ByteArray) (no : Option Addr) (nb noff nc : Nat) (nz : Nat → Int) (ao : Option Addr) (b off n c : Nat) (f : Nat → ByteArray) (w : World) (hF : F.answers w.tape) (hi : Ins w no nb noff n nz ao b off n f)
    (h0 : s0.size ≤ 65536) (h1 : s1.size ≤ 65536) (hn : n ≤ 4096) (ht : ∀ i, i < n → (FmtStop.textOf (F "fmt.Sprintf" (sReading s1.data.toList (nz i)) 0)).size ≤ 1000000) :
    Calls Tryf.prog 3 #[.string s0, .string s1, .slice no n nc, .slice ao n c] w fun e w' => e = .returned (.bool true) ∧ Below w.heap.size w w' := by
  have g0 : ¬ (65536 : Int) < (s0.size : Int) := by omega
  have g1 : ¬ (65536 : Int) < (s1.size : Int) := by omega
  have g2 : ¬ (4096 : Int) < (n : Int) := by omega
  have HI : Hid (Ins w no nb noff n nz ao b off n f) := hi
  have HT : Hid (∀ i, i < n → (FmtStop.textOf (F "fmt.Sprintf" (sReading s1.data.toList (nz i)) 0)).size ≤ 1000000) := ht
  clear hi ht
  go_enter Tryf.func3, Tryf.ntmps3
  go_wp2_with (first | (go_at_call 5; refine (bytes5_any s0 s1 no n nc ao b off n c HI.out.sa f _ (by omega) HI.out.sc).mono ?_; rintro e w1 ⟨⟨z, rfl⟩, hw1⟩; replace hw1 := hw1.symm; subst hw1) | (go_at_call 6; refine (sbytes_any ao b off n c HI.out.sa f _ _ (by omega) HI.out.sc).mono ?_; rintro e w1 ⟨⟨z2, rfl⟩, hw1⟩; replace hw1 := hw1.symm; subst hw1) | (go_at_call 7; refine (new_any s0 s1 _).mono ?_; rintro e w1 ⟨rfl, hL1, hB1⟩))
  all_goals try (go_ret; exact ⟨rfl, Below.refl _ _⟩)
  have HL1 : Hid (LAt w1 w.heap.size s0 s1 (.slice Option.none 0 0) []) := hL1
  clear hL1
  go_loopw [10] (fun i wr => ∃ (j : Nat) (sv : Value), j ≤ n ∧ i = .int .i64 j ∧ LAt wr w.heap.size s0 s1 sv (fo f j) ∧ Below w.heap.size w wr) (fun i _ => n - (intOf i).toNat)
  case atStart => exact ⟨0, _, by omega, rfl, HL1.out, hB1⟩
  case round =>
    obtain ⟨j, sv, hj, rfl, hL, hbel⟩ := hrel
    have hIr := HI.out.keep hbel
    have hsz := hL.lt
    by_cases hlt : j < n
    · obtain rfl := hIr.na (by omega)
      obtain rfl := hIr.sa (by omega)
      have hcn := hIr.nc j hlt
      have hcs := hIr.sc j hlt
      have hwn : nb < w.heap.size := cell_lt (HI.out.nc j hlt)
      have hws : b < w.heap.size := cell_lt (HI.out.sc j hlt)
      have hjn : (j : Int) < (n : Int) := by omega
      have hfl := fo_len f j
      have HLr : Hid (LAt wr w.heap.size s0 s1 sv (fo f j)) := hL
      have HIr : Hid (Ins wr (some ⟨nb, noff, none⟩) nb noff n nz (some ⟨b, off, none⟩) b off n f) := hIr
      clear hL hIr
      by_cases hs : has f (f j) j = true
      · have hx : has (nth (fo f j)) (f j) (fo f j).length = true := by rw [fo_has']; exact hs
        have hFr : F.answers wr.tape := by rw [hbel.tape]; exact hF
        have HX : Hid (has (nth (fo f j)) (f j) (fo f j).length = true) := hx
        clear hx
        go_wp2
        go_region_held3 (fun w' => w'.cell? ⟨nb, noff + j, none⟩ = some (.int .i64 (nz j)) ∧ w'.cell? ⟨b, off + j, none⟩ = some (.string (f j))) (first | (exact ⟨(hb2.cell (p := ⟨nb, noff + j, none⟩) (by simp; omega)).trans hcn, (hb2.cell (p := ⟨b, off + j, none⟩) (by simp; omega)).trans hcs⟩) | go_keep) (first | (go_at_call 8; refine (check_old F w.heap.size s0 s1 sv (fo f j) (nz j) (f j) _ ?hA ?hC HX.out (HT.out j hlt)).mono ?_; (case hA => exact hFr); (case hC => exact HLr.out.keep ((Below.refl _ _).drew)); rintro e w2 ⟨⟨et, ea, rfl⟩, hb2⟩))
        all_goals
          have hb2' : Below wr.heap.size wr w2 := (Below.refl _ wr).drew.trans hb2
          have HL2 : Hid (LAt w2 w.heap.size s0 s1 sv (fo f j)) := HLr.out.keep hb2'
          have HI2 : Hid (Ins w2 (some ⟨nb, noff, none⟩) nb noff n nz (some ⟨b, off, none⟩) b off n f) := HIr.out.keep hb2'
          go_wp2_with (go_at_call 9; refine (seen_any _ b off n c j rfl f _ hlt (by omega) HI2.out.sc).mono ?_; rintro e w3 ⟨rfl, q, hw3⟩; replace hw3 := hw3.symm; subst hw3)
          go_roundw
          case rel => exact ⟨j + 1, sv, by omega, by go_num, by rw [fo_same hs]; exact HL2.out.keep (below_drewN _ _ _), (hbel.trans (hb2'.mono (by omega))).trans (below_drewN _ _ _)⟩
          case measure => simp [intOf]; omega
      · replace hs : has f (f j) j = false := by simpa using hs
        have HX : Hid (has (nth (fo f j)) (f j) (fo f j).length = false) := by unfold Hid; rw [fo_has']; exact hs
        go_wp2
        go_region_held3 (fun w' => w'.cell? ⟨nb, noff + j, none⟩ = some (.int .i64 (nz j)) ∧ w'.cell? ⟨b, off + j, none⟩ = some (.string (f j))) (first | (exact ⟨(hb2.cell (p := ⟨nb, noff + j, none⟩) (by simp; omega)).trans hcn, (hb2.cell (p := ⟨b, off + j, none⟩) (by simp; omega)).trans hcs⟩) | go_keep) (first | (go_at_call 8; refine (check_new w.heap.size s0 s1 sv (fo f j) (nz j) (f j) _ ?hC (by omega) HX.out).mono ?_; (case hC => exact HLr.out.keep ((Below.refl _ _).drew)); rintro e w2 ⟨rfl, hL2, hb2⟩))
        all_goals
          have hb2' : Below w.heap.size wr w2 := (Below.refl _ wr).drew.trans hb2
          have HL2 : Hid (∃ sv', LAt w2 w.heap.size s0 s1 sv' (fo f j ++ [f j])) := hL2
          have HI2 : Hid (Ins w2 (some ⟨nb, noff, none⟩) nb noff n nz (some ⟨b, off, none⟩) b off n f) := HI.out.keep (hbel.trans hb2')
          clear hL2
          go_wp2_with (go_at_call 9; refine (seen_any _ b off n c j rfl f _ hlt (by omega) HI2.out.sc).mono ?_; rintro e w3 ⟨rfl, q, hw3⟩; replace hw3 := hw3.symm; subst hw3)
          go_roundw
          case rel =>
            obtain ⟨sv', hL3⟩ := HL2.out
            exact ⟨j + 1, sv', by omega, by go_num, by rw [fo_new hs]; exact hL3.keep (below_drewN _ _ _), (hbel.trans hb2').trans (below_drewN _ _ _)⟩
          case measure => simp [intOf]; omega
    · obtain rfl : j = n := by omega
      have HLr : Hid (LAt wr w.heap.size s0 s1 sv (fo f j)) := hL
      have HIr : Hid (Ins wr no nb noff j nz ao b off j f) := hIr
      clear hL hIr
      go_wp2_with (first | (go_at_call 11; refine (names_any w.heap.size s0 s1 sv (fo f j) _ HLr.out).mono ?_; rintro e w2 ⟨rfl, hw2⟩; replace hw2 := hw2.symm; subst hw2) | (go_at_call 12; refine (firsts_any ao b off j c HIr.out.sa f _ (by omega) HIr.out.sc).mono ?_; rintro e w2 ⟨v2, rfl, hown2, hb2⟩; have HL2 : Hid (LAt w2 w.heap.size s0 s1 sv (fo f j)) := HLr.out.keep hb2; obtain ⟨ao2, g2', cap2, rfl, hm2, hmx2, hao2, hcs2⟩ := owns_view hown2; obtain ⟨ao1, g1', cap1, hsv, hm1, hmx1, hao1, hcs1⟩ := owns_view HL2.out.own; rw [hsv]) | (go_at_call 10; refine (same_any ao1 ao2 g1' 0 g2' 0 (fo f j).length cap1 cap2 (fun h => (hao1 h).1) (fun h => (hao2 h).1) (nth (fo f j)) (nth (fo f j)) _ hmx1 hcs1 hcs2 (fun i _ => by simp)).mono ?_; rintro e w3 ⟨rfl, q, hw3⟩; replace hw3 := hw3.symm; subst hw3))
      go_ret
      exact ⟨rfl, (hbel.trans (hb2.mono (by omega))).trans (below_drewN _ _ _)⟩
end Go.Proofs.Qxb6619025aFmt
