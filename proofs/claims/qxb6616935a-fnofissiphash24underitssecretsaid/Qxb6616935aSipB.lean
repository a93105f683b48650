import Derived.Test.Qxb6616935aSipA
import Derived.StillTailTactics
namespace Go.Proofs.Qxb6616935a
open Go.RowKit
set_option linter.unusedVariables false
theorem mixed : Try.prog.follows .mixedOrders = true := by kernel_rfl

/-- The four words of the state lie in block B; none is frozen. -/
structure VAt (w : World) (B : Nat) (s : St) : Prop where
  c0 : w.cell? ⟨B, 0, none⟩ = some (.int .u64 s.a)
  c1 : w.cell? ⟨B, 1, none⟩ = some (.int .u64 s.b)
  c2 : w.cell? ⟨B, 2, none⟩ = some (.int .u64 s.c)
  c3 : w.cell? ⟨B, 3, none⟩ = some (.int .u64 s.d)
  f0 : w.frozen? ⟨B, 0, none⟩ = false
  f1 : w.frozen? ⟨B, 1, none⟩ = false
  f2 : w.frozen? ⟨B, 2, none⟩ = false
  f3 : w.frozen? ⟨B, 3, none⟩ = false

/-- Nothing but block B has turned. -/
structure Others (B : Nat) (w w' : World) : Prop where
  os : w'.os = w.os
  tape : w'.tape = w.tape
  output : w'.output = w.output
  size : w'.heap.size = w.heap.size
  block : ∀ k, k ≠ B → w'.heap[k]? = w.heap[k]?

theorem Others.refl (B : Nat) (w : World) : Others B w w := ⟨rfl, rfl, rfl, rfl, fun _ _ => rfl⟩
theorem Others.trans {B : Nat} {a b c : World} (h : Others B a b) (k : Others B b c) : Others B a c :=
  ⟨k.os.trans h.os, k.tape.trans h.tape, k.output.trans h.output, k.size.trans h.size, fun i hi => (k.block i hi).trans (h.block i hi)⟩
theorem Others.store {B : Nat} {w w' : World} (h : Others B w w') (i : Nat) (v : Value) : Others B w (w'.setCell ⟨B, i, none⟩ v).drew :=
  h.trans ⟨rfl, rfl, rfl, by simp [World.setCell, World.drew], fun k hk => Below.heap_setCell _ _ _ _ hk⟩

theorem step0 {B : Nat} {w wr w1 : World} {a b c d x : Int} (hv : VAt wr B ⟨a, b, c, d⟩) (hO : Others B w wr) (h : (wr.setCell ⟨B, 0, none⟩ (.int .u64 x)).drew = w1) : VAt w1 B ⟨x, b, c, d⟩ ∧ Others B w w1 := by
  obtain ⟨c0, c1, c2, c3, f0, f1, f2, f3⟩ := hv
  simp only at c0 c1 c2 c3
  subst h
  exact ⟨⟨by simp [go_sem, *], by simp [go_sem, *], by simp [go_sem, *], by simp [go_sem, *], by simp [go_sem, *], by simp [go_sem, *], by simp [go_sem, *], by simp [go_sem, *]⟩, hO.store _ _⟩
theorem step1 {B : Nat} {w wr w1 : World} {a b c d x : Int} (hv : VAt wr B ⟨a, b, c, d⟩) (hO : Others B w wr) (h : (wr.setCell ⟨B, 1, none⟩ (.int .u64 x)).drew = w1) : VAt w1 B ⟨a, x, c, d⟩ ∧ Others B w w1 := by
  obtain ⟨c0, c1, c2, c3, f0, f1, f2, f3⟩ := hv
  simp only at c0 c1 c2 c3
  subst h
  exact ⟨⟨by simp [go_sem, *], by simp [go_sem, *], by simp [go_sem, *], by simp [go_sem, *], by simp [go_sem, *], by simp [go_sem, *], by simp [go_sem, *], by simp [go_sem, *]⟩, hO.store _ _⟩
theorem step2 {B : Nat} {w wr w1 : World} {a b c d x : Int} (hv : VAt wr B ⟨a, b, c, d⟩) (hO : Others B w wr) (h : (wr.setCell ⟨B, 2, none⟩ (.int .u64 x)).drew = w1) : VAt w1 B ⟨a, b, x, d⟩ ∧ Others B w w1 := by
  obtain ⟨c0, c1, c2, c3, f0, f1, f2, f3⟩ := hv
  simp only at c0 c1 c2 c3
  subst h
  exact ⟨⟨by simp [go_sem, *], by simp [go_sem, *], by simp [go_sem, *], by simp [go_sem, *], by simp [go_sem, *], by simp [go_sem, *], by simp [go_sem, *], by simp [go_sem, *]⟩, hO.store _ _⟩
theorem step3 {B : Nat} {w wr w1 : World} {a b c d x : Int} (hv : VAt wr B ⟨a, b, c, d⟩) (hO : Others B w wr) (h : (wr.setCell ⟨B, 3, none⟩ (.int .u64 x)).drew = w1) : VAt w1 B ⟨a, b, c, x⟩ ∧ Others B w w1 := by
  obtain ⟨c0, c1, c2, c3, f0, f1, f2, f3⟩ := hv
  simp only at c0 c1 c2 c3
  subst h
  exact ⟨⟨by simp [go_sem, *], by simp [go_sem, *], by simp [go_sem, *], by simp [go_sem, *], by simp [go_sem, *], by simp [go_sem, *], by simp [go_sem, *], by simp [go_sem, *]⟩, hO.store _ _⟩

def rnds : Nat → St → St
  | 0, s => s
  | n + 1, s => rnd (rnds n s)

theorem rnd_eq {a b c d a1 c1 b1 d1 b2 d2 a2 c2 a3 b3 d3 b4 d4 c3 : Int} (Ha1 : IntKind.u64.wrap (a + b) = a1) (Hc1 : IntKind.u64.wrap (c + d) = c1) (Hb1 : rot 13 b = b1) (Hd1 : rot 16 d = d1)
    (Hb2 : bits .xor .u64 b1 a1 = b2) (Hd2 : bits .xor .u64 d1 c1 = d2) (Ha2 : rot 32 a1 = a2) (Hc2 : IntKind.u64.wrap (c1 + b2) = c2) (Ha3 : IntKind.u64.wrap (a2 + d2) = a3) (Hb3 : rot 17 b2 = b3) (Hd3 : rot 21 d2 = d3)
    (Hb4 : bits .xor .u64 b3 c2 = b4) (Hd4 : bits .xor .u64 d3 a3 = d4) (Hc3 : rot 32 c2 = c3) : rnd ⟨a, b, c, d⟩ = ⟨a3, b4, c3, d4⟩ := by
  subst Ha1 Hc1 Hb1 Hd1 Hb2 Hd2 Ha2 Hc2 Ha3 Hb3 Hd3 Hb4 Hd4 Hc3
  rfl

/-- A region that draws its order and whose last operation alone writes: the reads in the text's order, then the rest. -/
theorem region_tail {P : Program} {id : Nat} {Q : Exit → Act → World → Prop} {a : Act} {w : World} {l : List Oper} (n : Nat) (hm : P.follows .mixedOrders = true) (hB : Region.lexTailB .any l.toArray n = true)
    (h : wpStill P l.toArray w.drew (fun a' => wpList P l.toArray Q (l.drop n) a' w.drew) (l.take n) a) : (Code.region id l.toArray true).wp P Q a w :=
  wp_region_still_tail n hm hB h

set_option maxRecDepth 100000 in
set_option maxHeartbeats 1600000 in
theorem rounds_m (B n : Nat) (hn : n ≤ 100) (s : St) (w : World) (hv : VAt w B s) :
    Calls Try.prog 19 #[.pointer (some ⟨B, 0, none⟩), .int .i64 n] w fun e w' => e = .returned (.tuple #[]) ∧ VAt w' B (rnds n s) ∧ Others B w w' := by
  go_enter Try.func19, Try.ntmps19
  go_wp2
  go_loopw [4] (fun i wr => ∃ k : Nat, k ≤ n ∧ i = .int .i64 k ∧ VAt wr B (rnds k s) ∧ Others B w wr) (fun i _ => n - (intOf i).toNat)
  case atStart => exact ⟨0, Nat.zero_le _, rfl, hv, Others.refl _ _⟩
  case round =>
    obtain ⟨k, hk, rfl, hv0, hO0⟩ := hrel
    by_cases hlt : k < n
    · generalize hs : rnds k s = t at hv0
      obtain ⟨a, b, c, d⟩ := t
      have HS : Hid (rnds k s = ⟨a, b, c, d⟩) := hs
      clear hs
      obtain ⟨g0, g1, g2, g3, z0, z1, z2, z3⟩ := id hv0
      simp only at g0 g1 g2 g3
      go_wp2
      refine region_tail 11 mixed (by kernel_rfl) ?_
      simp only [List.take_succ_cons, List.take_zero, List.drop_succ_cons, List.drop_zero]
      iterate 11 still_step
      refine wpStill_nil ?_
      go_wp2
      generalize ha1 : IntKind.u64.wrap (a + b) = a1
      generalize hw1 : (wr.setCell ⟨B, 0, none⟩ (.int .u64 a1)).drew = w1
      obtain ⟨hv1, hO1⟩ := step0 hv0 hO0 hw1
      have Ha1 : Hid (IntKind.u64.wrap (a + b) = a1) := ha1
      clear ha1 hw1 g0 g1 g2 g3 z0 z1 z2 z3 hv0 hO0
      obtain ⟨g0, g1, g2, g3, z0, z1, z2, z3⟩ := id hv1
      simp only at g0 g1 g2 g3
      refine region_tail 11 mixed (by kernel_rfl) ?_
      simp only [List.take_succ_cons, List.take_zero, List.drop_succ_cons, List.drop_zero]
      iterate 11 still_step
      refine wpStill_nil ?_
      go_wp2
      generalize hc1 : IntKind.u64.wrap (c + d) = c1
      generalize hw2 : (w1.setCell ⟨B, 2, none⟩ (.int .u64 c1)).drew = w2
      obtain ⟨hv2, hO2⟩ := step2 hv1 hO1 hw2
      have Hc1 : Hid (IntKind.u64.wrap (c + d) = c1) := hc1
      clear hc1 hw2 g0 g1 g2 g3 z0 z1 z2 z3 hv1 hO1
      obtain ⟨g0, g1, g2, g3, z0, z1, z2, z3⟩ := id hv2
      simp only at g0 g1 g2 g3
      refine region_tail 8 mixed (by kernel_rfl) ?_
      simp only [List.take_succ_cons, List.take_zero, List.drop_succ_cons, List.drop_zero]
      iterate 5 still_step
      still_call (rotl_m _ _ (by decide) _)
      iterate 2 still_step
      refine wpStill_nil ?_
      go_wp2
      generalize hb1 : rot 13 b = b1
      generalize hw3 : (w2.setCell ⟨B, 1, none⟩ (.int .u64 b1)).drew = w3
      obtain ⟨hv3, hO3⟩ := step1 hv2 hO2 hw3
      have Hb1 : Hid (rot 13 b = b1) := hb1
      clear hb1 hw3 g0 g1 g2 g3 z0 z1 z2 z3 hv2 hO2
      obtain ⟨g0, g1, g2, g3, z0, z1, z2, z3⟩ := id hv3
      simp only at g0 g1 g2 g3
      refine region_tail 8 mixed (by kernel_rfl) ?_
      simp only [List.take_succ_cons, List.take_zero, List.drop_succ_cons, List.drop_zero]
      iterate 5 still_step
      still_call (rotl_m _ _ (by decide) _)
      iterate 2 still_step
      refine wpStill_nil ?_
      go_wp2
      generalize hd1 : rot 16 d = d1
      generalize hw4 : (w3.setCell ⟨B, 3, none⟩ (.int .u64 d1)).drew = w4
      obtain ⟨hv4, hO4⟩ := step3 hv3 hO3 hw4
      have Hd1 : Hid (rot 16 d = d1) := hd1
      clear hd1 hw4 g0 g1 g2 g3 z0 z1 z2 z3 hv3 hO3
      obtain ⟨g0, g1, g2, g3, z0, z1, z2, z3⟩ := id hv4
      simp only at g0 g1 g2 g3
      refine region_tail 11 mixed (by kernel_rfl) ?_
      simp only [List.take_succ_cons, List.take_zero, List.drop_succ_cons, List.drop_zero]
      iterate 11 still_step
      refine wpStill_nil ?_
      go_wp2
      generalize hb2 : bits .xor .u64 b1 a1 = b2
      generalize hw5 : (w4.setCell ⟨B, 1, none⟩ (.int .u64 b2)).drew = w5
      obtain ⟨hv5, hO5⟩ := step1 hv4 hO4 hw5
      have Hb2 : Hid (bits .xor .u64 b1 a1 = b2) := hb2
      clear hb2 hw5 g0 g1 g2 g3 z0 z1 z2 z3 hv4 hO4
      obtain ⟨g0, g1, g2, g3, z0, z1, z2, z3⟩ := id hv5
      simp only at g0 g1 g2 g3
      refine region_tail 11 mixed (by kernel_rfl) ?_
      simp only [List.take_succ_cons, List.take_zero, List.drop_succ_cons, List.drop_zero]
      iterate 11 still_step
      refine wpStill_nil ?_
      go_wp2
      generalize hd2 : bits .xor .u64 d1 c1 = d2
      generalize hw6 : (w5.setCell ⟨B, 3, none⟩ (.int .u64 d2)).drew = w6
      obtain ⟨hv6, hO6⟩ := step3 hv5 hO5 hw6
      have Hd2 : Hid (bits .xor .u64 d1 c1 = d2) := hd2
      clear hd2 hw6 g0 g1 g2 g3 z0 z1 z2 z3 hv5 hO5
      obtain ⟨g0, g1, g2, g3, z0, z1, z2, z3⟩ := id hv6
      simp only at g0 g1 g2 g3
      refine region_tail 8 mixed (by kernel_rfl) ?_
      simp only [List.take_succ_cons, List.take_zero, List.drop_succ_cons, List.drop_zero]
      iterate 5 still_step
      still_call (rotl_m _ _ (by decide) _)
      iterate 2 still_step
      refine wpStill_nil ?_
      go_wp2
      generalize ha2 : rot 32 a1 = a2
      generalize hw7 : (w6.setCell ⟨B, 0, none⟩ (.int .u64 a2)).drew = w7
      obtain ⟨hv7, hO7⟩ := step0 hv6 hO6 hw7
      have Ha2 : Hid (rot 32 a1 = a2) := ha2
      clear ha2 hw7 g0 g1 g2 g3 z0 z1 z2 z3 hv6 hO6
      obtain ⟨g0, g1, g2, g3, z0, z1, z2, z3⟩ := id hv7
      simp only at g0 g1 g2 g3
      refine region_tail 11 mixed (by kernel_rfl) ?_
      simp only [List.take_succ_cons, List.take_zero, List.drop_succ_cons, List.drop_zero]
      iterate 11 still_step
      refine wpStill_nil ?_
      go_wp2
      generalize hc2 : IntKind.u64.wrap (c1 + b2) = c2
      generalize hw8 : (w7.setCell ⟨B, 2, none⟩ (.int .u64 c2)).drew = w8
      obtain ⟨hv8, hO8⟩ := step2 hv7 hO7 hw8
      have Hc2 : Hid (IntKind.u64.wrap (c1 + b2) = c2) := hc2
      clear hc2 hw8 g0 g1 g2 g3 z0 z1 z2 z3 hv7 hO7
      obtain ⟨g0, g1, g2, g3, z0, z1, z2, z3⟩ := id hv8
      simp only at g0 g1 g2 g3
      refine region_tail 11 mixed (by kernel_rfl) ?_
      simp only [List.take_succ_cons, List.take_zero, List.drop_succ_cons, List.drop_zero]
      iterate 11 still_step
      refine wpStill_nil ?_
      go_wp2
      generalize ha3 : IntKind.u64.wrap (a2 + d2) = a3
      generalize hw9 : (w8.setCell ⟨B, 0, none⟩ (.int .u64 a3)).drew = w9
      obtain ⟨hv9, hO9⟩ := step0 hv8 hO8 hw9
      have Ha3 : Hid (IntKind.u64.wrap (a2 + d2) = a3) := ha3
      clear ha3 hw9 g0 g1 g2 g3 z0 z1 z2 z3 hv8 hO8
      obtain ⟨g0, g1, g2, g3, z0, z1, z2, z3⟩ := id hv9
      simp only at g0 g1 g2 g3
      refine region_tail 8 mixed (by kernel_rfl) ?_
      simp only [List.take_succ_cons, List.take_zero, List.drop_succ_cons, List.drop_zero]
      iterate 5 still_step
      still_call (rotl_m _ _ (by decide) _)
      iterate 2 still_step
      refine wpStill_nil ?_
      go_wp2
      generalize hb3 : rot 17 b2 = b3
      generalize hw10 : (w9.setCell ⟨B, 1, none⟩ (.int .u64 b3)).drew = w10
      obtain ⟨hv10, hO10⟩ := step1 hv9 hO9 hw10
      have Hb3 : Hid (rot 17 b2 = b3) := hb3
      clear hb3 hw10 g0 g1 g2 g3 z0 z1 z2 z3 hv9 hO9
      obtain ⟨g0, g1, g2, g3, z0, z1, z2, z3⟩ := id hv10
      simp only at g0 g1 g2 g3
      refine region_tail 8 mixed (by kernel_rfl) ?_
      simp only [List.take_succ_cons, List.take_zero, List.drop_succ_cons, List.drop_zero]
      iterate 5 still_step
      still_call (rotl_m _ _ (by decide) _)
      iterate 2 still_step
      refine wpStill_nil ?_
      go_wp2
      generalize hd3 : rot 21 d2 = d3
      generalize hw11 : (w10.setCell ⟨B, 3, none⟩ (.int .u64 d3)).drew = w11
      obtain ⟨hv11, hO11⟩ := step3 hv10 hO10 hw11
      have Hd3 : Hid (rot 21 d2 = d3) := hd3
      clear hd3 hw11 g0 g1 g2 g3 z0 z1 z2 z3 hv10 hO10
      obtain ⟨g0, g1, g2, g3, z0, z1, z2, z3⟩ := id hv11
      simp only at g0 g1 g2 g3
      refine region_tail 11 mixed (by kernel_rfl) ?_
      simp only [List.take_succ_cons, List.take_zero, List.drop_succ_cons, List.drop_zero]
      iterate 11 still_step
      refine wpStill_nil ?_
      go_wp2
      generalize hb4 : bits .xor .u64 b3 c2 = b4
      generalize hw12 : (w11.setCell ⟨B, 1, none⟩ (.int .u64 b4)).drew = w12
      obtain ⟨hv12, hO12⟩ := step1 hv11 hO11 hw12
      have Hb4 : Hid (bits .xor .u64 b3 c2 = b4) := hb4
      clear hb4 hw12 g0 g1 g2 g3 z0 z1 z2 z3 hv11 hO11
      obtain ⟨g0, g1, g2, g3, z0, z1, z2, z3⟩ := id hv12
      simp only at g0 g1 g2 g3
      refine region_tail 11 mixed (by kernel_rfl) ?_
      simp only [List.take_succ_cons, List.take_zero, List.drop_succ_cons, List.drop_zero]
      iterate 11 still_step
      refine wpStill_nil ?_
      go_wp2
      generalize hd4 : bits .xor .u64 d3 a3 = d4
      generalize hw13 : (w12.setCell ⟨B, 3, none⟩ (.int .u64 d4)).drew = w13
      obtain ⟨hv13, hO13⟩ := step3 hv12 hO12 hw13
      have Hd4 : Hid (bits .xor .u64 d3 a3 = d4) := hd4
      clear hd4 hw13 g0 g1 g2 g3 z0 z1 z2 z3 hv12 hO12
      obtain ⟨g0, g1, g2, g3, z0, z1, z2, z3⟩ := id hv13
      simp only at g0 g1 g2 g3
      refine region_tail 8 mixed (by kernel_rfl) ?_
      simp only [List.take_succ_cons, List.take_zero, List.drop_succ_cons, List.drop_zero]
      iterate 5 still_step
      still_call (rotl_m _ _ (by decide) _)
      iterate 2 still_step
      refine wpStill_nil ?_
      go_wp2
      generalize hc3 : rot 32 c2 = c3
      generalize hw14 : (w13.setCell ⟨B, 2, none⟩ (.int .u64 c3)).drew = w14
      obtain ⟨hv14, hO14⟩ := step2 hv13 hO13 hw14
      have Hc3 : Hid (rot 32 c2 = c3) := hc3
      clear hc3 hw14 g0 g1 g2 g3 z0 z1 z2 z3 hv13 hO13
      obtain ⟨g0, g1, g2, g3, z0, z1, z2, z3⟩ := id hv14
      simp only at g0 g1 g2 g3
      go_wp2
      go_roundw
      case rel =>
        refine ⟨k + 1, by omega, by go_num, ?_, hO14⟩
        show VAt w14 B (rnd (rnds k s))
        rw [HS.out, rnd_eq Ha1.out Hc1.out Hb1.out Hd1.out Hb2.out Hd2.out Ha2.out Hc2.out Ha3.out Hb3.out Hd3.out Hb4.out Hd4.out Hc3.out]
        exact hv14
      case measure => simp [intOf]; omega
    · have hkn : k = n := by omega
      subst hkn
      go_wp2
      go_end0
      exact ⟨rfl, hv0, hO0⟩
end Go.Proofs.Qxb6616935a
