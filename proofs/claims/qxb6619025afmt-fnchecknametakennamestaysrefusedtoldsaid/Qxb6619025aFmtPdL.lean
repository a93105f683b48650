import Derived.Test.Qxb6619025aFmtPdK
namespace Go.Proofs.Qxb6619025aFmt
open Go.RowKit Go.Extern.Stop Go.Stop Go.Extern
set_option linter.unusedVariables false
attribute [local go_sem ↓] Go.wp_at_zero Go.wp_at_succ

set_option maxHeartbeats 1600000 in
theorem top4_big (s0 s1 s6 : ByteArray) (n1 n2 : Int) (no : Option Addr) (nb noff nl nc : Nat) (nz : Nat → Int) (ao : Option Addr) (b off n c : Nat) (f : Nat → ByteArray) (w : World) (hi : Ins w no nb noff nl nz ao b off n f) (hn : n ≤ 9223372036854775807)
    (hg : 65536 < s0.size ∨ 65536 < s1.size ∨ 65536 < s6.size ∨ 4096 < nl ∨ 4096 < n ∨ nl ≠ n) :
    Calls Tryf.prog 4 #[.string s0, .string s1, .slice no nl nc, .slice ao n c, .int .i64 n1, .int .i64 n2, .string s6] w fun e w' => e = .returned (.bool true) ∧ Below w.heap.size w w' := by
  by_cases g0 : (65536 : Int) < (s0.size : Int)
  · go_enter Tryf.func4, Tryf.ntmps4
    go_wp2_with (go_at_call 13; refine (bytes13_any s0 s1 s6 n1 n2 no nl nc ao b off n c hi.sa f _ hn hi.sc).mono ?_; rintro e w1 ⟨⟨z, rfl⟩, hw1⟩; replace hw1 := hw1.symm; subst hw1)
    all_goals (go_ret; exact ⟨rfl, Below.refl _ _⟩)
  by_cases g1 : (65536 : Int) < (s1.size : Int)
  · go_enter Tryf.func4, Tryf.ntmps4
    go_wp2_with (go_at_call 13; refine (bytes13_any s0 s1 s6 n1 n2 no nl nc ao b off n c hi.sa f _ hn hi.sc).mono ?_; rintro e w1 ⟨⟨z, rfl⟩, hw1⟩; replace hw1 := hw1.symm; subst hw1)
    all_goals (go_ret; exact ⟨rfl, Below.refl _ _⟩)
  by_cases g2 : (65536 : Int) < (s6.size : Int)
  · go_enter Tryf.func4, Tryf.ntmps4
    go_wp2_with (go_at_call 13; refine (bytes13_any s0 s1 s6 n1 n2 no nl nc ao b off n c hi.sa f _ hn hi.sc).mono ?_; rintro e w1 ⟨⟨z, rfl⟩, hw1⟩; replace hw1 := hw1.symm; subst hw1)
    all_goals (go_ret; exact ⟨rfl, Below.refl _ _⟩)
  by_cases g3 : (4096 : Int) < (nl : Int)
  · go_enter Tryf.func4, Tryf.ntmps4
    go_wp2_with (go_at_call 13; refine (bytes13_any s0 s1 s6 n1 n2 no nl nc ao b off n c hi.sa f _ hn hi.sc).mono ?_; rintro e w1 ⟨⟨z, rfl⟩, hw1⟩; replace hw1 := hw1.symm; subst hw1)
    all_goals (go_ret; exact ⟨rfl, Below.refl _ _⟩)
  by_cases g4 : (4096 : Int) < (n : Int)
  · go_enter Tryf.func4, Tryf.ntmps4
    go_wp2_with (go_at_call 13; refine (bytes13_any s0 s1 s6 n1 n2 no nl nc ao b off n c hi.sa f _ hn hi.sc).mono ?_; rintro e w1 ⟨⟨z, rfl⟩, hw1⟩; replace hw1 := hw1.symm; subst hw1)
    all_goals (go_ret; exact ⟨rfl, Below.refl _ _⟩)
  have g5 : ((nl : Int) == (n : Int)) = false := by simp; omega
  go_enter Tryf.func4, Tryf.ntmps4
  go_wp2_with (first | (go_at_call 13; refine (bytes13_any s0 s1 s6 n1 n2 no nl nc ao b off n c hi.sa f _ hn hi.sc).mono ?_; rintro e w1 ⟨⟨z, rfl⟩, hw1⟩; replace hw1 := hw1.symm; subst hw1) | (go_at_call 6; refine (sbytes_any ao b off n c hi.sa f _ _ hn hi.sc).mono ?_; rintro e w1 ⟨⟨z2, rfl⟩, hw1⟩; replace hw1 := hw1.symm; subst hw1))
  all_goals (go_ret; exact ⟨rfl, Below.refl _ _⟩)

theorem cells_keep {w w' : World} {g m : Nat} {xs : List ByteArray} (h : ∀ i, i < m → w.cell? ⟨g, 0 + i, none⟩ = some (.string (nth xs i))) (hb : Below w.heap.size w w') : ∀ i, i < m → w'.cell? ⟨g, 0 + i, none⟩ = some (.string (nth xs i)) := fun i hi => by
  rw [hb.cell (cell_lt (h i hi))]; exact h i hi

theorem has_last (ys : List ByteArray) (x : ByteArray) : has (nth (ys ++ [x])) x (ys ++ [x]).length = true :=
  has_hit (k := ys.length) (by simp) (by rw [nth_append_last]; simp)
/-- The row of the first occurrences is not the List's own. -/
theorem taken_far {wr w2 w3 : World} {LB : Nat} {noun pre : ByteArray} {sv vT : Value} {xs : List ByteArray} {m : Nat} {ts : List Value} (hL : LAt wr LB noun pre sv xs) (hO : w2.ownsRow wr.heap.size 9 1 vT m ts) (hsz : LB < wr.heap.size) (hf : Far w2 LB sv w3) :
    w3.ownsRow wr.heap.size 9 1 vT m ts :=
  owns_keep hO fun g hg => hf g (hO.lt g hg).2 (by have := (hO.lt g hg).1; omega) (fun e => by have h1 := (hO.lt g hg).1; have h2 := (hL.own.lt g e.symm).2; omega)
theorem cells_grown {w w1 w2 : World} {o : Obj} {g m base n : Nat} {xs : List ByteArray} {v : Value} {ts : List Value} (h : ∀ i, i < m → w.cell? ⟨g, 0 + i, none⟩ = some (.string (nth xs i))) (hg : (w.alloc o).grownBy w1 v.ownBlock) (hO : w2.ownsRow base 9 1 v n ts) (hlt : w2.heap.size ≤ g) :
    ∀ i, i < m → w1.cell? ⟨g, 0 + i, none⟩ = some (.string (nth xs i)) := fun i hi => by
  have h1 := h i hi
  have hgs : g < w.heap.size := cell_lt h1
  have e : w1.heap[g]? = w.heap[g]? := (hg.block g (by simp; omega) (fun e => by have := (hO.lt g e.symm).2; omega)).trans (Below.heap_alloc _ _ _ hgs)
  rw [World.cell?_of_block (w := w) (a := ⟨g, 0 + i, none⟩) e]
  exact h1

set_option maxHeartbeats 3200000 in
theorem top4_mid (F : Interp) (s0 s1 s6 : ByteArray) (n1 n2 : Int) (no : Option Addr) (nb noff nc : Nat) (nz : Nat → Int) (ao : Option Addr) (b off n c : Nat) (f : Nat → ByteArray) (w : World) (hF : F.answers w.tape) (hi : Ins w no nb noff n nz ao b off n f)
    (h0 : s0.size ≤ 65536) (h1 : s1.size ≤ 65536) (h6 : s6.size ≤ 65536) (hn : n ≤ 4096) (ht : ∀ i, i < n → (FmtStop.textOf (F "fmt.Sprintf" (sReading s1.data.toList (nz i)) 0)).size ≤ 1000000)
    (ht1 : (FmtStop.textOf (F "fmt.Sprintf" (sReading s1.data.toList n1) 0)).size ≤ 1000000) (ht2 : (FmtStop.textOf (F "fmt.Sprintf" (sReading s1.data.toList n2) 0)).size ≤ 1000000) :
    Calls Tryf.prog 4 #[.string s0, .string s1, .slice no n nc, .slice ao n c, .int .i64 n1, .int .i64 n2, .string s6] w fun e w' => e = .returned (.bool true) ∧ Below w.heap.size w w' := by
  obtain ⟨i0, hi0, hz0, hz1, hz2⟩ := info_parts info9
  have g0 : ¬ (65536 : Int) < (s0.size : Int) := by omega
  have g1 : ¬ (65536 : Int) < (s1.size : Int) := by omega
  have g6 : ¬ (65536 : Int) < (s6.size : Int) := by omega
  have g2 : ¬ (4096 : Int) < (n : Int) := by omega
  have HI : Hid (Ins w no nb noff n nz ao b off n f) := hi
  have HT : Hid (∀ i, i < n → (FmtStop.textOf (F "fmt.Sprintf" (sReading s1.data.toList (nz i)) 0)).size ≤ 1000000) := ht
  have HT1 : Hid ((FmtStop.textOf (F "fmt.Sprintf" (sReading s1.data.toList n1) 0)).size ≤ 1000000) := ht1
  have HT2 : Hid ((FmtStop.textOf (F "fmt.Sprintf" (sReading s1.data.toList n2) 0)).size ≤ 1000000) := ht2
  clear hi ht ht1 ht2
  go_enter Tryf.func4, Tryf.ntmps4
  go_wp2_with (first | (go_at_call 13; refine (bytes13_any s0 s1 s6 n1 n2 no n nc ao b off n c HI.out.sa f _ (by omega) HI.out.sc).mono ?_; rintro e w1 ⟨⟨z, rfl⟩, hw1⟩; replace hw1 := hw1.symm; subst hw1) | (go_at_call 6; refine (sbytes_any ao b off n c HI.out.sa f _ _ (by omega) HI.out.sc).mono ?_; rintro e w1 ⟨⟨z2, rfl⟩, hw1⟩; replace hw1 := hw1.symm; subst hw1) | (go_at_call 7; refine (new_any s0 s1 _).mono ?_; rintro e w1 ⟨rfl, hL1, hB1⟩))
  all_goals try (go_ret; exact ⟨rfl, Below.refl _ _⟩)
  have HL1 : Hid (LAt w1 w.heap.size s0 s1 (.slice Option.none 0 0) []) := hL1
  clear hL1
  go_loopw [16] (fun i wr => ∃ (j : Nat) (sv : Value), j ≤ n ∧ i = .int .i64 j ∧ LAt wr w.heap.size s0 s1 sv (fo f j) ∧ Below w.heap.size w wr) (fun i _ => n - (intOf i).toNat)
  case atStart => exact ⟨0, _, by omega, rfl, HL1.out, hB1⟩
  case round =>
    obtain ⟨j, sv, hj, rfl, hL, hbel⟩ := hrel
    have hIr := HI.out.keep hbel
    have hsz := hL.lt
    by_cases hlt : j < n
    · obtain rfl := hIr.na (by omega)
      obtain rfl := hIr.sa (by omega)
      have hcn := hIr.nc j hlt
      have hcs := hIr.sc j hlt
      have hwn : nb < w.heap.size := cell_lt (HI.out.nc j hlt)
      have hws : b < w.heap.size := cell_lt (HI.out.sc j hlt)
      have hjn : (j : Int) < (n : Int) := by omega
      have hfl := fo_len f j
      have HLr : Hid (LAt wr w.heap.size s0 s1 sv (fo f j)) := hL
      have HIr : Hid (Ins wr (some ⟨nb, noff, none⟩) nb noff n nz (some ⟨b, off, none⟩) b off n f) := hIr
      clear hL hIr
      by_cases hs : has f (f j) j = true
      · have hx : has (nth (fo f j)) (f j) (fo f j).length = true := by rw [fo_has']; exact hs
        have hFr : F.answers wr.tape := by rw [hbel.tape]; exact hF
        have HX : Hid (has (nth (fo f j)) (f j) (fo f j).length = true) := hx
        clear hx
        go_wp2
        go_region_held3 (fun w' => w'.cell? ⟨nb, noff + j, none⟩ = some (.int .i64 (nz j)) ∧ w'.cell? ⟨b, off + j, none⟩ = some (.string (f j))) (first | (exact ⟨(hb2.cell (p := ⟨nb, noff + j, none⟩) (by simp; omega)).trans hcn, (hb2.cell (p := ⟨b, off + j, none⟩) (by simp; omega)).trans hcs⟩) | go_keep) (first | (go_at_call 8; refine (check_old F w.heap.size s0 s1 sv (fo f j) (nz j) (f j) _ ?hA ?hC HX.out (HT.out j hlt)).mono ?_; (case hA => exact hFr); (case hC => exact HLr.out.keep ((Below.refl _ _).drew)); rintro e w2 ⟨⟨et, ea, rfl⟩, hb2⟩))
        all_goals
          have hb2' : Below wr.heap.size wr w2 := (Below.refl _ wr).drew.trans hb2
          have HL2 : Hid (LAt w2 w.heap.size s0 s1 sv (fo f j)) := HLr.out.keep hb2'
          go_wp2
          go_roundw
          case rel => exact ⟨j + 1, sv, by omega, by go_num, by rw [fo_same hs]; exact HL2.out, hbel.trans (hb2'.mono (by omega))⟩
          case measure => simp [intOf]; omega
      · replace hs : has f (f j) j = false := by simpa using hs
        have HX : Hid (has (nth (fo f j)) (f j) (fo f j).length = false) := by unfold Hid; rw [fo_has']; exact hs
        go_wp2
        go_region_held3 (fun w' => w'.cell? ⟨nb, noff + j, none⟩ = some (.int .i64 (nz j)) ∧ w'.cell? ⟨b, off + j, none⟩ = some (.string (f j))) (first | (exact ⟨(hb2.cell (p := ⟨nb, noff + j, none⟩) (by simp; omega)).trans hcn, (hb2.cell (p := ⟨b, off + j, none⟩) (by simp; omega)).trans hcs⟩) | go_keep) (first | (go_at_call 8; refine (check_new w.heap.size s0 s1 sv (fo f j) (nz j) (f j) _ ?hC (by omega) HX.out).mono ?_; (case hC => exact HLr.out.keep ((Below.refl _ _).drew)); rintro e w2 ⟨rfl, hL2, hb2⟩))
        all_goals
          have hb2' : Below w.heap.size wr w2 := (Below.refl _ wr).drew.trans hb2
          have HL2 : Hid (∃ sv', LAt w2 w.heap.size s0 s1 sv' (fo f j ++ [f j])) := hL2
          clear hL2
          go_wp2
          go_roundw
          case rel =>
            obtain ⟨sv', hL3⟩ := HL2.out
            exact ⟨j + 1, sv', by omega, by go_num, by rw [fo_new hs]; exact hL3, hbel.trans hb2'⟩
          case measure => simp [intOf]; omega
    · obtain rfl : j = n := by omega
      have hfl := fo_len f j
      have hFr : F.answers wr.tape := by rw [hbel.tape]; exact hF
      have HIr : Hid (Ins wr no nb noff j nz ao b off j f) := hIr
      obtain ⟨ao1, g1', cap1, rfl, -, hmx1, hao1, hcs1⟩ := owns_view hL.own
      have HLr : Hid (LAt wr w.heap.size s0 s1 (.slice ao1 (fo f j).length cap1) (fo f j)) := hL
      have HA1 : Hid (0 < (fo f j).length → ao1 = some ⟨g1', 0, none⟩) := fun h => (hao1 h).1
      have HC1 : Hid (∀ i, i < (fo f j).length → wr.cell? ⟨g1', 0 + i, none⟩ = some (.string (nth (fo f j) i))) := hcs1
      clear hL hIr hao1 hcs1
      have HXX := fo_has' f s6 j
      generalize hys : fo f j = ys at *
      by_cases tk : has f s6 j = true
      · have hxx : has (nth ys) s6 ys.length = true := by rw [HXX]; exact tk
        have HX : Hid (has (nth ys) s6 ys.length = true) := hxx
        clear tk HXX
        go_wp2_with (go_at_call 12; refine (firsts_any ao b off j c HIr.out.sa f _ (by omega) HIr.out.sc).mono ?_; rw [hys]; rintro e w2 ⟨v2, rfl, hown2, hb2⟩; have HL2 : Hid (LAt w2 w.heap.size s0 s1 (.slice ao1 ys.length cap1) ys) := HLr.out.keep hb2; obtain ⟨aoT, gT, capT, rfl, hmT, hmxT, haoT, hcsT⟩ := owns_view hown2; have HOT : Hid (w2.ownsRow wr.heap.size 9 1 (.slice aoT ys.length capT) ys.length (strV ys)) := hown2; have HAT : Hid (0 < ys.length → aoT = some ⟨gT, 0, none⟩) := (fun h => (haoT h).1); have HCT : Hid (∀ i, i < ys.length → w2.cell? ⟨gT, 0 + i, none⟩ = some (.string (nth ys i))) := hcsT; clear hown2 haoT hcsT hmT)
        go_wp2_with (go_at_call 14; refine (contains_any aoT gT 0 ys.length capT HAT.out (nth ys) s6 _ hmxT HCT.out).mono ?_; rintro e wx ⟨rfl, hwx⟩; replace hwx := hwx.symm; subst hwx)
        go_wp2_with (go_at_call 8; refine (check_old F w.heap.size s0 s1 _ ys n1 s6 w2 ?hA HL2.out HX.out HT1.out).mono ?_; (case hA => (rw [hb2.tape]; exact hFr)); rintro e w3 ⟨⟨et, ea, rfl⟩, hb3⟩; have HL3 : Hid (LAt w3 w.heap.size s0 s1 (.slice ao1 ys.length cap1) ys) := HL2.out.keep hb3; have HB3 : Hid (Below wr.heap.size wr w3) := hb2.trans (hb3.mono hb2.size))
        go_wp2_with (go_at_call 11; refine (names_any w.heap.size s0 s1 _ ys w3 HL3.out).mono ?_; rintro e wx ⟨rfl, hwx⟩; replace hwx := hwx.symm; subst hwx)
        go_wp2_with (go_at_call 15; refine (clone_any ao1 g1' 0 ys.length cap1 HA1.out (nth ys) w3 (by omega) (cells_keep HC1.out HB3.out)).mono ?_; rintro e w4 ⟨rfl, hc4, hz4, hb4⟩; have HC4 : Hid (∀ i, i < ys.length → w4.cell? ⟨w3.heap.size, 0 + i, none⟩ = some (.string (nth ys i))) := hc4; clear hc4; have HL4 : Hid (LAt w4 w.heap.size s0 s1 (.slice ao1 ys.length cap1) ys) := HL3.out.keep hb4; have HB4 : Hid (Below wr.heap.size wr w4) := HB3.out.trans (hb4.mono HB3.out.size))
        go_wp2_with (go_at_call 8; refine (check_old F w.heap.size s0 s1 _ ys n2 s6 w4 ?hA HL4.out HX.out HT2.out).mono ?_; (case hA => (rw [HB4.out.tape]; exact hFr)); rintro e w5 ⟨⟨et2, ea2, rfl⟩, hb5⟩; have HL5 : Hid (LAt w5 w.heap.size s0 s1 (.slice ao1 ys.length cap1) ys) := HL4.out.keep hb5; have HB5 : Hid (Below wr.heap.size wr w5) := HB4.out.trans (hb5.mono HB4.out.size))
        go_wp2_with (go_at_call 11; refine (names_any w.heap.size s0 s1 _ ys w5 HL5.out).mono ?_; rintro e wx ⟨rfl, hwx⟩; replace hwx := hwx.symm; subst hwx)
        go_wp2_with (go_at_call 15; refine (clone_any ao1 g1' 0 ys.length cap1 HA1.out (nth ys) w5 (by omega) (cells_keep HC1.out HB5.out)).mono ?_; rintro e w6 ⟨rfl, hc6, hz6, hb6⟩; have HC6 : Hid (∀ i, i < ys.length → w6.cell? ⟨w5.heap.size, 0 + i, none⟩ = some (.string (nth ys i))) := hc6; clear hc6)
        have HM6 : Hid (∀ i, i < ys.length → w6.cell? ⟨w3.heap.size, 0 + i, none⟩ = some (.string (nth ys i))) := cells_keep HC4.out (hb5.trans (hb6.mono hb5.size))
        have HB26 : Hid (Below w2.heap.size w2 w6) := ((hb3.trans (hb4.mono hb3.size)).trans (hb5.mono (Nat.le_trans hb3.size hb4.size))).trans (hb6.mono (Nat.le_trans (Nat.le_trans hb3.size hb4.size) hb5.size))
        have HT6 : Hid (∀ i, i < ys.length → w6.cell? ⟨gT, 0 + i, none⟩ = some (.string (nth ys i))) := cells_keep HCT.out HB26.out
        have HB6 : Hid (Below wr.heap.size wr w6) := HB5.out.trans (hb6.mono HB5.out.size)
        have mark : Hid True := trivial
        go_wp2_with (first | (go_at_call 10; clear mark; refine (same_any (some ⟨w3.heap.size, 0, none⟩) aoT w3.heap.size 0 gT 0 ys.length ys.length capT (fun _ => rfl) HAT.out (nth ys) (nth ys) w6 hmx1 HM6.out HT6.out (fun i _ => by simp)).mono ?_; rintro e wx ⟨rfl, q1, hwx⟩; replace hwx := hwx.symm; subst hwx) | (go_at_call 10; refine (same_any (some ⟨w5.heap.size, 0, none⟩) aoT w5.heap.size 0 gT 0 ys.length ys.length capT (fun _ => rfl) HAT.out (nth ys) (nth ys) (w6.drewN q1) hmx1 (fun i hi => HC6.out i hi) (fun i hi => HT6.out i hi) (fun i _ => by simp)).mono ?_; rintro e wx ⟨rfl, q2, hwx⟩; replace hwx := hwx.symm; subst hwx))
        go_ret
        exact ⟨rfl, (hbel.trans (HB6.out.mono (by omega))).trans (below_drewN _ _ _)⟩
      · have hxx : has (nth ys) s6 ys.length = false := by rw [HXX]; simpa using tk
        have HX : Hid (has (nth ys) s6 ys.length = false) := hxx
        clear tk HXX
        have HZ : Hid (has (nth (ys ++ [s6])) s6 (ys ++ [s6]).length = true) := has_last ys s6
        have hzl : (ys ++ [s6]).length = ys.length + 1 := by simp
        generalize hzs : ys ++ [s6] = zs at *
        have HZL : Hid (zs.length = ys.length + 1) := hzl
        have HZS : Hid (ys ++ [s6] = zs) := hzs
        clear hzl hzs
        go_wp2_with (go_at_call 12; refine (firsts_any ao b off j c HIr.out.sa f _ (by omega) HIr.out.sc).mono ?_; rw [hys]; rintro e w2 ⟨v2, rfl, hown2, hb2⟩; have HL2 : Hid (LAt w2 w.heap.size s0 s1 (.slice ao1 ys.length cap1) ys) := HLr.out.keep hb2; obtain ⟨aoT, gT, capT, rfl, hmT, hmxT, haoT, hcsT⟩ := owns_view hown2; have HOT : Hid (w2.ownsRow wr.heap.size 9 1 (.slice aoT ys.length capT) ys.length (strV ys)) := hown2; have HAT : Hid (0 < ys.length → aoT = some ⟨gT, 0, none⟩) := (fun h => (haoT h).1); have HCT : Hid (∀ i, i < ys.length → w2.cell? ⟨gT, 0 + i, none⟩ = some (.string (nth ys i))) := hcsT; clear hown2 haoT hcsT hmT)
        go_wp2_with (go_at_call 14; refine (contains_any aoT gT 0 ys.length capT HAT.out (nth ys) s6 _ hmxT HCT.out).mono ?_; rintro e wx ⟨rfl, hwx⟩; replace hwx := hwx.symm; subst hwx)
        go_wp2_with (go_at_call 8; refine (check_new2 w.heap.size s0 s1 _ ys n1 s6 w2 HL2.out (by omega) HX.out).mono ?_; rw [HZS.out]; rintro e w3 ⟨rfl, hL3e, hb3, hfar⟩; obtain ⟨sv3, hL3⟩ := hL3e; obtain ⟨ao3, g3', cap3, rfl, -, hmx3, hao3, hcs3⟩ := owns_view hL3.own; have HL3 : Hid (LAt w3 w.heap.size s0 s1 (.slice ao3 zs.length cap3) zs) := hL3; have HA3 : Hid (0 < zs.length → ao3 = some ⟨g3', 0, none⟩) := (fun h => (hao3 h).1); have HC3 : Hid (∀ i, i < zs.length → w3.cell? ⟨g3', 0 + i, none⟩ = some (.string (nth zs i))) := hcs3; have HOT3 : Hid (w3.ownsRow wr.heap.size 9 1 (.slice aoT ys.length capT) ys.length (strV ys)) := (taken_far HLr.out HOT.out hsz hfar); have HB3 : Hid (Below w.heap.size wr w3) := (hb2.mono (by omega)).trans hb3; clear hL3 hao3 hcs3 hfar)
        go_wp2_with (go_at_call 11; refine (names_any w.heap.size s0 s1 _ zs w3 HL3.out).mono ?_; rintro e wx ⟨rfl, hwx⟩; replace hwx := hwx.symm; subst hwx)
        go_wp2_with (go_at_call 15; refine (clone_any ao3 g3' 0 zs.length cap3 HA3.out (nth zs) w3 (by have := HZL.out; omega) HC3.out).mono ?_; rintro e w4 ⟨rfl, hc4, hz4, hb4⟩; have HC4 : Hid (∀ i, i < zs.length → w4.cell? ⟨w3.heap.size, 0 + i, none⟩ = some (.string (nth zs i))) := hc4; clear hc4; have HL4 : Hid (LAt w4 w.heap.size s0 s1 (.slice ao3 zs.length cap3) zs) := HL3.out.keep hb4; have hz3 := HB3.out.size; have HB4 : Hid (Below w.heap.size wr w4) := HB3.out.trans (hb4.mono (by omega)))
        go_wp2_with (go_at_call 8; refine (check_old F w.heap.size s0 s1 _ zs n2 s6 w4 ?hA HL4.out HZ.out HT2.out).mono ?_; (case hA => (rw [HB4.out.tape]; exact hFr)); rintro e w5 ⟨⟨et2, ea2, rfl⟩, hb5⟩; have HL5 : Hid (LAt w5 w.heap.size s0 s1 (.slice ao3 zs.length cap3) zs) := HL4.out.keep hb5; have hz5 := hb5.size; have HB5 : Hid (Below w.heap.size wr w5) := HB4.out.trans (hb5.mono (by omega)))
        go_wp2_with (go_at_call 11; refine (names_any w.heap.size s0 s1 _ zs w5 HL5.out).mono ?_; rintro e wx ⟨rfl, hwx⟩; replace hwx := hwx.symm; subst hwx)
        go_wp2_with (first | (go_at_call 15; refine (clone_any ao3 g3' 0 zs.length cap3 HA3.out (nth zs) w5 (by have := HZL.out; omega) (cells_keep HC3.out (hb4.trans (hb5.mono hb4.size)))).mono ?_; rintro e w6 ⟨rfl, hc6, hz6, hb6⟩; have HC6 : Hid (∀ i, i < zs.length → w6.cell? ⟨w5.heap.size, 0 + i, none⟩ = some (.string (nth zs i))) := hc6; clear hc6; have HM6 : Hid (∀ i, i < zs.length → w6.cell? ⟨w3.heap.size, 0 + i, none⟩ = some (.string (nth zs i))) := (cells_keep HC4.out (hb5.trans (hb6.mono hb5.size))); have HB36 : Hid (Below w3.heap.size w3 w6) := (hb4.trans (hb5.mono hb4.size)).trans (hb6.mono (Nat.le_trans hb4.size hb5.size)); have HOT6 : Hid (w6.ownsRow wr.heap.size 9 1 (.slice aoT ys.length capT) ys.length (strV ys)) := (owns_below HOT3.out HB36.out); have HB6 : Hid (Below w.heap.size wr w6) := HB5.out.trans (hb6.mono (by omega)); have hz36 := HB36.out.size; have hzw2 := hb2.size; have hz23 := hb3.size) | (at_builtin; refine wpList_append_own _ rfl (.tmp 119) (.tmp 121) 23 rfl wr.heap.size 9 i0 (.string ⟨#[]⟩) 1 16 Tryf.underlying23 hi0 hz0 hz1 hz2 rfl (by decide) (.slice aoT ys.length capT) _ _ rfl (HOT6.out.alloc _) ⟨w6.heap.size, 0, none⟩ 1 1 [.string s6] rfl rfl (cell_one_new w6 _ _) (by intro u hu; simp at hu; subst hu; rfl) (by unfold maxLen; omega) (by omega) (by simp; omega) ?_; intro v7 w7 hown7 hgrow7 hnil7; clear hnil7; have HO7 : Hid (w7.ownsRow wr.heap.size 9 1 v7 zs.length (strV zs)) := (by unfold Hid; rw [← HZS.out]; simpa [strV] using hown7); clear hown7; obtain ⟨ao7, g7, cap7, hv7, -, hmx7, hao7, hcs7⟩ := owns_view HO7.out; rw [hv7]; have HA7 : Hid (0 < zs.length → ao7 = some ⟨g7, 0, none⟩) := (fun h => (hao7 h).1); have HC7 : Hid (∀ i, i < zs.length → w7.cell? ⟨g7, 0 + i, none⟩ = some (.string (nth zs i))) := hcs7; have HM7 : Hid (∀ i, i < zs.length → w7.cell? ⟨w3.heap.size, 0 + i, none⟩ = some (.string (nth zs i))) := (cells_grown HM6.out hgrow7 HOT.out (by omega)); have HF7 : Hid (∀ i, i < zs.length → w7.cell? ⟨w5.heap.size, 0 + i, none⟩ = some (.string (nth zs i))) := (cells_grown HC6.out hgrow7 HOT.out (by omega)); have HB7 : Hid (Below w.heap.size wr w7) := ((HB6.out.alloc (by omega) _).grown hgrow7 (by simp; omega) (fun k e => by have := (HOT.out.lt k e).1; omega)); clear hv7 hao7 hcs7 hgrow7))
        have mark : Hid True := trivial
        go_wp2_with (first | (go_at_call 10; clear mark; refine (same_any (some ⟨w3.heap.size, 0, none⟩) ao7 w3.heap.size 0 g7 0 zs.length zs.length cap7 (fun _ => rfl) HA7.out (nth zs) (nth zs) w7 hmx7 HM7.out HC7.out (fun i _ => by simp)).mono ?_; rintro e wx ⟨rfl, q1, hwx⟩; replace hwx := hwx.symm; subst hwx) | (go_at_call 10; refine (same_any (some ⟨w5.heap.size, 0, none⟩) ao7 w5.heap.size 0 g7 0 zs.length zs.length cap7 (fun _ => rfl) HA7.out (nth zs) (nth zs) (w7.drewN q1) hmx7 (fun i hi => HF7.out i hi) (fun i hi => HC7.out i hi) (fun i _ => by simp)).mono ?_; rintro e wx ⟨rfl, q2, hwx⟩; replace hwx := hwx.symm; subst hwx))
        go_ret
        exact ⟨rfl, (hbel.trans HB7.out).trans (below_drewN _ _ _)⟩
end Go.Proofs.Qxb6619025aFmt
