import Derived.Test.Qxb6616935aSipE
namespace Go.Proofs.Qxb6616935a
open Go.RowKit
set_option linter.unusedVariables false

theorem bcell {W w1 : World} (hb : Below W.heap.size W w1) : (∀ b o, b < W.heap.size → w1.cell? ⟨b, o, none⟩ = W.cell? ⟨b, o, none⟩) ∧ (∀ b o, b < W.heap.size → w1.frozen? ⟨b, o, none⟩ = W.frozen? ⟨b, o, none⟩) :=
  ⟨fun b o h => hb.cell (p := ⟨b, o, none⟩) h, fun b o h => hb.frozen (p := ⟨b, o, none⟩) h⟩
theorem bytes_any (k0 k1 : Int) (ao : Option Addr) (n c : Nat) (hn : n ≤ 9223372036854775807) (w : World) :
    Calls Try.prog 6 #[.int .u64 k0, .int .u64 k1, .slice ao n c] w fun e w' => e = .returned (.bool (decide (n ≤ 1048576))) ∧ w' = w := by
  by_cases h : n ≤ 1048576
  · have h1 : ¬ (1048576 : Int) < (n : Int) := by omega
    go_enter Try.func6, Try.ntmps6
    go_wp2
    go_ret
    exact ⟨by simp, rfl⟩
  · have h1 : (1048576 : Int) < (n : Int) := by omega
    go_enter Try.func6, Try.ntmps6
    go_wp2
    go_ret
    exact ⟨by simp [h], rfl⟩

theorem order_any (k0 k1 : Int) (w : World) :
    Calls Try.prog 8 #[.int .u64 k0, .int .u64 k1] w fun e w' => e = .returned (.agg #[.int .u64 k0, .int .u64 k1]) ∧ Below w.heap.size w w' := by
  go_enter Try.func8, Try.ntmps8
  go_wp2
  exact bodyPost_ret (v := .agg #[.int .u64 k0, .int .u64 k1]) (by simp [results, Try.results8, go_sem]) rfl ⟨rfl, (Below.refl _ _).alloc (Nat.le_refl _) _⟩

set_option maxRecDepth 100000 in
theorem hash_any (k0 k1 : Int) (ao : Option Addr) (g o n c : Nat) (ha : 0 < n → ao = some ⟨g, o, none⟩) (f : Nat → Int) (hb : ∀ i, 0 ≤ f i ∧ f i ≤ 255) (w : World) (hn : n ≤ 1048576) (hnc : n ≤ c) (hcm : c ≤ 9223372036854775807)
    (hc : ∀ i, i < n → w.cell? ⟨g, o + i, none⟩ = some (.int .u8 (f i))) :
    Calls Try.prog 20 #[.agg #[.int .u64 k0, .int .u64 k1], .slice ao n c] w fun e w' => e = .returned (.int .u64 (sip k0 k1 f n)) ∧ Below w.heap.size w w' := by
  go_enter Try.func20, Try.ntmps20
  go_wp2_with (go_at_call 24; refine (sip_t k0 k1 ao g o n c ha f hb _ hn hnc hcm (fun i hi => cell_old _ (hc i hi))).mono ?_; rintro e w' ⟨rfl, hb2⟩)
  go_ret
  exact ⟨rfl, ((Below.refl _ _).alloc (Nat.le_refl _) _).trans (hb2.mono (by simp))⟩

set_option maxRecDepth 100000 in
theorem of_any (k0 k1 : Int) (ao : Option Addr) (g o n c : Nat) (ha : 0 < n → ao = some ⟨g, o, none⟩) (f : Nat → Int) (hb : ∀ i, 0 ≤ f i ∧ f i ≤ 255) (w : World) (hn : n ≤ 1048576) (hnc : n ≤ c) (hcm : c ≤ 9223372036854775807)
    (hc : ∀ i, i < n → w.cell? ⟨g, o + i, none⟩ = some (.int .u8 (f i))) :
    Calls Try.prog 9 #[.agg #[.int .u64 k0, .int .u64 k1], .slice ao n c] w fun e w' => e = .returned (.agg #[.int .u64 (sip k0 k1 f n), .slice ao n c]) ∧ Below w.heap.size w w' := by
  go_enter Try.func9, Try.ntmps9
  go_wp2_with (go_at_call 20; refine (hash_any k0 k1 ao g o n c ha f hb _ hn hnc hcm (fun i hi => cell_old _ (cell_old _ (hc i hi)))).mono ?_; rintro e w' ⟨rfl, hb2⟩; obtain ⟨hcc, hff⟩ := bcell hb2)
  exact bodyPost_ret (v := .agg #[.int .u64 (sip k0 k1 f n), .slice ao n c]) (by simp [results, Try.results9, go_sem, hcc]) rfl ⟨rfl, (((((Below.refl _ _).alloc (Nat.le_refl _) _).alloc (by simp) _).trans (hb2.mono (by simp; omega))).setCell (by simp) _).setCell (by simp) _⟩
end Go.Proofs.Qxb6616935a
