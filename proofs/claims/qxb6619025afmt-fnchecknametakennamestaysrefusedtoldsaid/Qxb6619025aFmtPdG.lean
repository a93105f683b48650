import Derived.Test.Qxb6619025aFmtPdF
namespace Go.Proofs.Qxb6619025aFmt
open Go.RowKit Go.Extern.Stop Go.Stop Go.Extern
set_option linter.unusedVariables false
theorem elem61 (w : World) : (elemOf 61).run Tryf.prog w = .ok 63 w := by kernel_rfl
attribute [local go_sem ↓] Go.wp_at_zero Go.wp_at_succ
attribute [local go_sem] call28 guardF fmtE fmtEr op9_115w op9_113w act9_115w act9_113w act39_115w isString39 str39 str9 ptr61 ptr59 isError61 elem61

/-- An error comes back. -/
def IsErr (e : Ending) : Prop := ∃ t a, e = .returned (.iface t (.pointer (some a)))

set_option maxHeartbeats 800000 in
/-- fmt.Errorf with a Key and two strings. -/
theorem errorf_any (F : Interp) (a : Option Addr) (l c : Nat) (t x noun : ByteArray) (blk : Nat) (w : World) (hF : F.answers w.tape) (h0 : w.cell? ⟨blk, 0, none⟩ = some (.iface 39 (.agg #[.slice a l c, .string t])))
    (h1 : w.cell? ⟨blk, 1, none⟩ = some (.iface 9 (.string x))) (h2 : w.cell? ⟨blk, 2, none⟩ = some (.iface 9 (.string noun))) :
    Calls Tryf.prog 25 #[.string ⟨#[37, 115, 58, 32, 110, 97, 109, 101, 32, 37, 113, 32, 105, 115, 32, 97, 108, 114, 101, 97, 100, 121, 32, 97, 110, 111, 116, 104, 101, 114, 32, 37, 115, 39, 115]⟩, .slice (some ⟨blk, 0, none⟩) 3 3] w fun e w' => IsErr e ∧ Below w.heap.size w w' := by
  have hF' := answers_open hF
  have hb : blk < w.heap.size := cell_lt h0
  go_enter Tryf.func25, Tryf.ntmps25
  go_wp2
  apply rows_call nextTurns
  case hr =>
    go_simp
    exact ⟨⟨rfl, rfl, rfl⟩, rfl⟩
  case hi => exact invokeString39 _ _
  case hc =>
    refine (kstring_any _ t a l c rfl _).mono fun e w₃ ⟨he, hx⟩ => ?_
    subst he
    have hF3 := answers_open (show F.answers w₃.tape by rw [hx.tape]; exact hF)
    have h03 : w₃.cell? ⟨blk, 0, none⟩ = some (.iface 39 (.agg #[.slice a l c, .string t])) := by rw [hx.cell hb]; exact h0
    have h13 : w₃.cell? ⟨blk, 1, none⟩ = some (.iface 9 (.string x)) := by rw [hx.cell hb]; exact h1
    have h23 : w₃.cell? ⟨blk, 2, none⟩ = some (.iface 9 (.string noun)) := by rw [hx.cell hb]; exact h2
    apply rows_value nextReturned
    case hr =>
      go_simp
      exact ⟨rfl, rfl⟩
    case h =>
      go_wp2
      go_ret
      exact ⟨⟨_, _, rfl⟩, (hx.alloc hx.size _).drew⟩

set_option maxHeartbeats 800000 in
/-- Key.Errorf. -/
theorem kerrorf_any (F : Interp) (ka : Option Addr) (kl kc : Nat) (ks : ByteArray) (a : Option Addr) (l c : Nat) (t x noun : ByteArray) (blk : Nat) (w : World) (hF : F.answers w.tape) (h0 : w.cell? ⟨blk, 0, none⟩ = some (.iface 39 (.agg #[.slice a l c, .string t])))
    (h1 : w.cell? ⟨blk, 1, none⟩ = some (.iface 9 (.string x))) (h2 : w.cell? ⟨blk, 2, none⟩ = some (.iface 9 (.string noun))) :
    Calls Tryf.prog 19 #[.agg #[.slice ka kl kc, .string ks], .string ⟨#[37, 115, 58, 32, 110, 97, 109, 101, 32, 37, 113, 32, 105, 115, 32, 97, 108, 114, 101, 97, 100, 121, 32, 97, 110, 111, 116, 104, 101, 114, 32, 37, 115, 39, 115]⟩, .slice (some ⟨blk, 0, none⟩) 3 3] w fun e w' => IsErr e ∧ Below w.heap.size w w' := by
  have H0 := cell_old (.cells #[.slice ka kl kc, .string ks] 39) h0
  have H1 := cell_old (.cells #[.slice ka kl kc, .string ks] 39) h1
  have H2 := cell_old (.cells #[.slice ka kl kc, .string ks] 39) h2
  have hbx : Below w.heap.size w (w.alloc (.cells #[.slice ka kl kc, .string ks] 39)) := (Below.refl _ w).alloc (Nat.le_refl _) _
  go_enter Tryf.func19, Tryf.ntmps19
  go_wp2
  go_region_held3 (fun w' => w'.cell? ⟨w.heap.size, 0, none⟩ = some (.slice ka kl kc) ∧ w'.cell? ⟨w.heap.size, 1, none⟩ = some (.string ks)) (first | (exact ⟨(hcc _ 0 (by simp)).trans (by simp [go_sem]), (hcc _ 1 (by simp)).trans (by simp [go_sem])⟩) | (exact ⟨cell_old _ ((hcc _ 0 (by simp)).trans (by simp [go_sem])), cell_old _ ((hcc _ 1 (by simp)).trans (by simp [go_sem]))⟩) | go_keep)
    (first | (go_at_call 25; refine (errorf_any F a l c t x noun blk _ (by exact hF) (by exact H0) (by exact H1) (by exact H2)).mono ?_; rintro e w2 ⟨⟨et, ea, rfl⟩, hb2⟩; obtain ⟨hcc, hff⟩ := bcell hb2))
  all_goals
    go_wp2
    go_ret
    exact ⟨⟨_, _, rfl⟩, ((hbx.drew.trans (hb2.mono (by simp))).alloc (by have := hb2.size; simp at this; omega) _)⟩
end Go.Proofs.Qxb6619025aFmt
