import Derived.Test.Qxb6616935aSipH
namespace Go.Proofs.Qxb6616935a
open Go.RowKit
set_option linter.unusedVariables false

/-- Block B holds the bytes p 0, .., p (L - 1). -/
def PadAt (w : World) (B L : Nat) (p : Nat → Int) : Prop := ∀ i, i < L → w.cell? ⟨B, i, none⟩ = some (.int .u8 (p i))

set_option maxHeartbeats 1600000 in
set_option maxRecDepth 100000 in
theorem model_any (k0 k1 : Int) (ao : Option Addr) (g o n c : Nat) (ha : 0 < n → ao = some ⟨g, o, none⟩) (f : Nat → Int) (hb : ∀ i, 0 ≤ f i ∧ f i ≤ 255) (w : World) (hn : n ≤ 1048576)
    (hc : ∀ i, i < n → w.cell? ⟨g, o + i, none⟩ = some (.int .u8 (f i))) :
    Calls Try.prog 7 #[.int .u64 k0, .int .u64 k1, .slice ao n c] w fun e w' => e = .returned (.int .u64 (sip k0 k1 f n)) ∧ Below w.heap.size w w' := by
  obtain ⟨L, hL⟩ : ∃ L : Nat, L = (n / 8 + 1) * 8 := ⟨_, rfl⟩
  have eL : ((n : Int) / 8 + 1) * 8 = (L : Int) := by omega
  have hmk := Go.run_make_row' (P := Try.prog) 23 5 (.int .u8 0) 1 Try.underlying23 info5 rfl .i64 .i64 L (by omega) (by omega)
  obtain ⟨W3, hcp, hsz3, hbel3, hcell3, hfr3⟩ := copy_new (w.alloc (.cells #[.int .u64 (bits .xor .u64 k0 8317987319222330741), .int .u64 (bits .xor .u64 k1 7237128888997146477), .int .u64 (bits .xor .u64 k0 7816392313619706465), .int .u64 (bits .xor .u64 k1 8387220255154660723)] 51))
    (w.heap.size + 1) (by simp) L n c g o ao ha f (by omega) (fun i hi => cell_old _ (hc i hi))
  have hv3 : VAt W3 w.heap.size (init k0 k1) := by
    have hbc := hbel3.block w.heap.size (by omega)
    constructor <;> (first | (rw [hbel3.cell (by simp)]; simp [go_sem, init]) | (rw [hbel3.frozen (by simp)]; simp [go_sem]))
  have hB3 : Below w.heap.size w W3 := ((Below.refl _ _).alloc (Nat.le_refl _) _).trans (hbel3.mono (by omega))
  clear hbel3
  have hcL := hcell3 (L - 1) (by omega)
  have hfL := hfr3 (L - 1)
  have HL : Hid (L = (n / 8 + 1) * 8) := hL
  have hL8 : (8 : Int) ≤ (L : Int) := by omega
  have hLm : (L : Int) ≤ 1048584 := by omega
  clear hL hc ha
  have HC : Hid (∀ i, i < L → W3.cell? ⟨w.heap.size + 1, i, none⟩ = some (.int .u8 (if i < n then f i else 0))) := hcell3
  have HF : Hid (∀ i, W3.frozen? ⟨w.heap.size + 1, i, none⟩ = false) := hfr3
  clear hcell3 hfr3
  go_enter Try.func7, Try.ntmps7
  go_wp2
  have hv4 : VAt (W3.setCell ⟨w.heap.size + 1, L - 1, none⟩ (.int .u8 ((n : Int) % 256))) w.heap.size (init k0 k1) := by
    obtain ⟨c0, c1, c2, c3, f0, f1, f2, f3⟩ := hv3
    constructor <;> (first | (rw [World.cell?_setCell_other _ _ _ _ (by simp)]; assumption) | (rw [World.frozen?_setCell]; assumption))
  have hp4 : PadAt (W3.setCell ⟨w.heap.size + 1, L - 1, none⟩ (.int .u8 ((n : Int) % 256))) (w.heap.size + 1) L (padf f n) := by
    intro i hi
    have h := HC.out i hi
    by_cases hiL : i = L - 1
    · subst hiL
      rw [World.cell?_setCell_same _ _ _ h, padf_top _ _ _ (by have := HL.out; omega) (by have := HL.out; omega)]
    · rw [World.cell?_setCell_other _ _ _ _ (by simp), h]
      by_cases hin : i < n
      · rw [if_pos hin, padf_lo _ _ _ hin]
      · rw [if_neg hin, padf_mid _ _ _ (by omega) (by have := HL.out; omega)]
  have hB4 := hB3.setCell (p := ⟨w.heap.size + 1, L - 1, none⟩) (by simp) (.int .u8 ((n : Int) % 256))
  have hs4 : (W3.setCell ⟨w.heap.size + 1, L - 1, none⟩ (.int .u8 ((n : Int) % 256))).heap.size = w.heap.size + 2 := by rw [← hsz3]; simp [World.setCell]
  generalize W3.setCell ⟨w.heap.size + 1, L - 1, none⟩ (.int .u8 ((n : Int) % 256)) = W4 at *
  clear hv3 hB3 hcL hfL HC HF hcp hsz3 hmk
  go_loopw [11] (fun i wr => ∃ k : Nat, k ≤ n / 8 + 1 ∧ i = .int .i64 (8 * (k : Int)) ∧ VAt wr w.heap.size (run (word f n) (init k0 k1) k) ∧ PadAt wr (w.heap.size + 1) L (padf f n) ∧ Below w.heap.size w wr ∧ wr.heap.size = w.heap.size + 2) (fun i _ => 8 * (n / 8 + 1) - (intOf i).toNat)
  case atStart => exact ⟨0, by omega, by simp, hv4, hp4, hB4, hs4⟩
  case round =>
    obtain ⟨k, hk, rfl, hv, hp, hB, hs⟩ := hrel
    clear hv4 hp4 hB4 hs4
    by_cases hlt : k < n / 8 + 1
    · have h8k : 8 * (k : Int) < (L : Int) := by have := HL.out; omega
      have h8k' : 8 * (k : Int) + 8 ≤ (L : Int) := by have := HL.out; omega
      have HS : Hid (wr.heap.size = w.heap.size + 2) := hs
      clear hs
      generalize hs : run (word f n) (init k0 k1) k = s at hv
      have HR : Hid (run (word f n) (init k0 k1) k = s) := hs
      clear hs
      obtain ⟨a, b, cc, d⟩ := s
      obtain ⟨c0, c1, c2, c3, f0, f1, f2, f3⟩ := id hv
      simp only at c0 c1 c2 c3
      go_wp2
      go_loop [12, 13] (fun m j => ∃ u : Nat, u ≤ 8 ∧ j = .int .i64 ((u : Int) - 1) ∧ m = .int .u64 (hw (padf f n) (8 * k) (8 - u))) (fun _ j => (intOf j + 1).toNat)
      case atStart => exact ⟨8, by omega, rfl, rfl⟩
      case round =>
        obtain ⟨u, hu8, rfl, rfl⟩ := hrel
        rcases u with _ | v
        · have e8 : hw (padf f n) (8 * k) (8 - 0) = word f n k := by rw [← word_pad f n k hlt, ← hw8]
          rw [e8]
          clear e8
          have e1 := run_step HR.out (rfl : word f n k = word f n k)
          have HE : Hid (_ = _) := e1
          clear e1
          generalize word f n k = m at *
          go_wp2_with (go_at_call 19; refine (rounds2 w.heap.size ⟨a, b, cc, bits .xor .u64 d m⟩ _ (hv.set3)).mono ?_; rintro e w2 ⟨rfl, hv2, ho2⟩; obtain ⟨g0, g1, g2, g3, z0, z1, z2, z3⟩ := id hv2)
          have hO := (((Others.refl w.heap.size wr).set 3 (.int .u64 (bits .xor .u64 d m))).trans ho2).set 0 (.int .u64 (bits .xor .u64 (rnd (rnd ⟨a, b, cc, bits .xor .u64 d m⟩)).a m))
          have hV : VAt (w2.setCell ⟨w.heap.size, 0, none⟩ (.int .u64 (bits .xor .u64 (rnd (rnd ⟨a, b, cc, bits .xor .u64 d m⟩)).a m))) w.heap.size (run (word f n) (init k0 k1) (k + 1)) := by
            rw [HE.out]
            exact VAt.set0 (a := (rnd (rnd ⟨a, b, cc, bits .xor .u64 d m⟩)).a) (b := (rnd (rnd ⟨a, b, cc, bits .xor .u64 d m⟩)).b) (c := (rnd (rnd ⟨a, b, cc, bits .xor .u64 d m⟩)).c) (d := (rnd (rnd ⟨a, b, cc, bits .xor .u64 d m⟩)).d) hv2
          go_roundw
          case rel => exact ⟨k + 1, by omega, by go_num, hV, fun i hi => by rw [hO.cell (by simp)]; exact hp i hi, hB.trans hO.below, hO.size.trans HS.out⟩
          case measure => simp [intOf]; omega
        · have ev : ((v + 1 : Nat) : Int) - 1 = (v : Int) := by omega
          rw [ev]
          have hcell : wr.cell? ⟨w.heap.size + 1, 8 * k + v, none⟩ = some (.int .u8 (padf f n (8 * k + v))) := hp _ (by have := HL.out; omega)
          have hbd := hw_bd7 (padf f n) (8 * k) (padf_bd f n hb) (8 - (v + 1)) (by omega)
          have hpb := padf_bd f n hb (8 * k + v)
          have hst : hw (padf f n) (8 * k) (8 - v) = hw (padf f n) (8 * k) (8 - (v + 1)) * 256 + padf f n (8 * k + v) := by
            have e : 8 - v = (8 - (v + 1)) + 1 := by omega
            rw [e, hw, show 7 - (8 - (v + 1)) = v by omega]
          have hor : Hid (_ = hw (padf f n) (8 * k) (8 - v)) := (or_low _ _ hbd.1 hbd.2 hpb.1 hpb.2).trans hst.symm
          clear hst ev
          generalize hw (padf f n) (8 * k) (8 - (v + 1)) = M at *
          generalize padf f n (8 * k + v) = x at *
          go_wp2
          go_round
          case rel => exact ⟨v, by omega, rfl, by rw [hor.out]⟩
          case measure => simp [intOf]
    · have hkn : k = n / 8 + 1 := by omega
      subst hkn
      have h8k : ¬ 8 * (((n / 8 + 1 : Nat)) : Int) < (L : Int) := by have := HL.out; omega
      have HE : Hid (sip k0 k1 f n = fin (run (word f n) (init k0 k1) (n / 8 + 1))) := rfl
      generalize run (word f n) (init k0 k1) (n / 8 + 1) = s at *
      obtain ⟨a, b, cc, d⟩ := s
      obtain ⟨c0, c1, c2, c3, f0, f1, f2, f3⟩ := id hv
      simp only at c0 c1 c2 c3
      go_wp2_with (go_at_call 19; refine (rounds4 w.heap.size ⟨a, b, bits .xor .u64 cc 255, d⟩ _ (hv.set2)).mono ?_; rintro e w2 ⟨rfl, hv2, ho2⟩; obtain ⟨g0, g1, g2, g3, z0, z1, z2, z3⟩ := id hv2)
      go_ret
      exact ⟨by rw [HE.out]; rfl, hB.trans (((Others.refl w.heap.size wr).set 2 _).trans ho2).below⟩
end Go.Proofs.Qxb6616935a
