import Derived.Test.Qxb6619025aFmtPdG
namespace Go.Proofs.Qxb6619025aFmt
open Go.RowKit Go.Extern.Stop Go.Stop Go.Extern
set_option linter.unusedVariables false
attribute [local go_sem ↓] Go.wp_at_zero Go.wp_at_succ

set_option maxHeartbeats 1600000 in
/-- CheckName at a name that is taken. -/
theorem check_old (F : Interp) (LB : Nat) (noun pre : ByteArray) (sv : Value) (xs : List ByteArray) (n : Int) (x : ByteArray) (w : World) (hF : F.answers w.tape) (h : LAt w LB noun pre sv xs) (hx : has (nth xs) x xs.length = true)
    (ht : (FmtStop.textOf (F "fmt.Sprintf" (sReading pre.data.toList n) 0)).size ≤ 1000000) :
    Calls Tryf.prog 8 #[.pointer (some ⟨LB, 0, none⟩), .int .i64 n, .string x] w fun e w' => IsErr e ∧ Below w.heap.size w w' := by
  have h5 := h.c5
  have HL : Hid (LAt w LB noun pre sv xs) := h
  have hlt := h.lt
  obtain ⟨ao, g0, cap0, rfl, hm, hmx, hao, hcs⟩ := owns_view h.own
  have HA : Hid (0 < xs.length → ao = some ⟨g0, 0, none⟩) := fun h0 => (hao h0).1
  have HC : Hid (∀ i, i < xs.length → w.cell? ⟨g0, 0 + i, none⟩ = some (.string (nth xs i))) := hcs
  have h3 : w.cell? ⟨LB, 3, none⟩ = some (.string noun) := by simp [World.cell?, h.blk]
  clear h hm hao hcs
  generalize htx : FmtStop.textOf (F "fmt.Sprintf" (sReading pre.data.toList n) 0) = t at ht
  have HT : Hid (FmtStop.textOf (F "fmt.Sprintf" (sReading pre.data.toList n) 0) = t) := htx
  clear htx
  go_enter Tryf.func8, Tryf.ntmps8
  go_wp2_with (first | (go_at_call 16; refine (among_any ao g0 0 xs.length cap0 HA.out _ x _ hmx HC.out).mono ?_; rintro e w2 ⟨rfl, hw2⟩; replace hw2 := hw2.symm; subst hw2) | (go_at_call 17; refine (element_any F LB noun pre _ xs n _ (by exact hF) HL.out).mono ?_; rw [HT.out]; rintro e w1 ⟨⟨g, cap, hk⟩, hb1⟩; obtain ⟨rfl, hst⟩ := hk; have hc3 : w1.cell? ⟨LB, 3, none⟩ = some (.string noun) := (by rw [hb1.cell hlt]; exact h3); have hz1 := hb1.size))
  have hBw : Below w.heap.size w (w1.alloc (.cells #[.slice (some ⟨g, 0, none⟩) 1 cap, .string t] 39)) := hb1.alloc hz1 _
  have k0 : (w1.alloc (.cells #[.slice (some ⟨g, 0, none⟩) 1 cap, .string t] 39)).cell? ⟨w1.heap.size, 0, none⟩ = some (.slice (some ⟨g, 0, none⟩) 1 cap) := by simp [go_sem]
  have k1 : (w1.alloc (.cells #[.slice (some ⟨g, 0, none⟩) 1 cap, .string t] 39)).cell? ⟨w1.heap.size, 1, none⟩ = some (.string t) := by simp [go_sem]
  have k3 := cell_old (.cells #[.slice (some ⟨g, 0, none⟩) 1 cap, .string t] 39) hc3
  have hs1 : StepAt (w1.alloc (.cells #[.slice (some ⟨g, 0, none⟩) 1 cap, .string t] 39)) g cap n := hst.keep ((Below.refl _ _).alloc (Nat.le_refl _) _)
  have hF1 : F.answers (w1.alloc (.cells #[.slice (some ⟨g, 0, none⟩) 1 cap, .string t] 39)).tape := by rw [hBw.tape]; exact hF
  have hK : w1.heap.size < (w1.alloc (.cells #[.slice (some ⟨g, 0, none⟩) 1 cap, .string t] 39)).heap.size := by simp
  generalize w1.alloc (.cells #[.slice (some ⟨g, 0, none⟩) 1 cap, .string t] 39) = W1 at *
  generalize w1.heap.size = K at *
  clear hc3 hst hb1 h3 h5 hmx
  have hLB : LB < W1.heap.size := cell_lt k3
  have HS : Hid (StepAt W1 g cap n) := hs1
  clear hs1
  go_region_held3 (fun w' => w'.cell? ⟨K, 0, none⟩ = some (.slice (some ⟨g, 0, none⟩) 1 cap) ∧ w'.cell? ⟨K, 1, none⟩ = some (.string t) ∧ w'.cell? ⟨LB, 3, none⟩ = some (.string noun))
    (first | (exact ⟨(hBV.cell (p := ⟨K, 0, none⟩) hK).trans k0, (hBV.cell (p := ⟨K, 1, none⟩) hK).trans k1, (hBV.cell (p := ⟨LB, 3, none⟩) hLB).trans k3⟩) | (exact ⟨(hBW.cell (p := ⟨K, 0, none⟩) hK).trans k0, (hBW.cell (p := ⟨K, 1, none⟩) hK).trans k1, (hBW.cell (p := ⟨LB, 3, none⟩) hLB).trans k3⟩) | (exact ⟨cell_old _ ((hBW.cell (p := ⟨K, 0, none⟩) hK).trans k0), cell_old _ ((hBW.cell (p := ⟨K, 1, none⟩) hK).trans k1), cell_old _ ((hBW.cell (p := ⟨LB, 3, none⟩) hLB).trans k3)⟩) | (exact ⟨cell_old _ k0, cell_old _ k1, cell_old _ k3⟩) | go_keep)
    (first | (go_at_call 18; refine (at_any g cap n t _ ?hS ht).mono ?_; (case hS => first | exact HS.out.keep ((Below.refl _ W1).drew) | exact HS.out.keep (((Below.refl _ W1).alloc (Nat.le_refl _) _).drew)); rintro e w2 ⟨⟨ka, kl, kc, ks, rfl⟩, hb2⟩; have hBW : Below W1.heap.size W1 w2 := (by first | exact (Below.refl _ W1).drew.trans hb2 | exact (((Below.refl _ W1).alloc (Nat.le_refl _) _).drew).trans (hb2.mono (by simp)))) | (go_at_call 19; refine (kerrorf_any F _ _ _ _ (some ⟨g, 0, none⟩) 1 cap t x noun _ _ ?hA ?hC ?hD ?hE).mono ?_; (case hA => (show F.answers w2.tape; rw [hBW.tape]; exact hF1)); (case hC => first | (simp [go_sem]; done) | exact (hb2.cell (by simp)).trans (by simp [go_sem])); (case hD => first | (simp [go_sem]; done) | exact (hb2.cell (by simp)).trans (by simp [go_sem])); (case hE => first | (simp [go_sem]; done) | exact (hb2.cell (by simp)).trans (by simp [go_sem])); rintro e w3 ⟨⟨et, ea, rfl⟩, hb3⟩; have hBV : Below W1.heap.size W1 w3 := (by have hz2 := hBW.size; first | exact hBW.trans (hb3.mono hz2) | exact (hBW.alloc hz2 _).trans (hb3.mono (by simp; omega)))))
  all_goals
    go_wp2
    go_ret
    exact ⟨⟨_, _, rfl⟩, hBw.trans (hBV.mono hBw.size)⟩
end Go.Proofs.Qxb6619025aFmt
