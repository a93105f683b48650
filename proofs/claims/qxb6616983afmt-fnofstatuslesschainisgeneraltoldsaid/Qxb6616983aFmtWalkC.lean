import Derived.Test.Qxb6616983aFmtWalkB
import Derived.Deep.LoopGhost
namespace Go.Proofs.Qxb6616983aFmt
open Go.RowKit Go.Extern.Stop Go.Stop Go.Extern
set_option linter.unusedVariables false

/-- An error of errors.New's make, wrapped d times. -/
def Chain (w : World) : Nat → Value → Prop
  | 0, v => ∃ a s, v = .iface 47 (.pointer (some a)) ∧ w.cell? a = some (.string s)
  | d + 1, v => ∃ b m u, v = .iface 51 (.pointer (some ⟨b, 0, none⟩)) ∧ w.cell? ⟨b, 0, none⟩ = some (.string m) ∧ w.cell? ⟨b, 1, none⟩ = some u ∧ Chain w d u
theorem Chain.keep {w w' : World} (hb : Below w.heap.size w w') : ∀ {d : Nat} {v : Value}, Chain w d v → Chain w' d v
  | 0, _, ⟨a, s, e, h⟩ => ⟨a, s, e, by rw [hb.cell (cell_lt h)]; exact h⟩
  | d + 1, _, ⟨b, m, u, e, h0, h1, h2⟩ => ⟨b, m, u, e, by rw [hb.cell (cell_lt h0)]; exact h0, by rw [hb.cell (cell_lt h1)]; exact h1, h2.keep hb⟩
theorem Chain.form {w : World} : ∀ {d : Nat} {v : Value}, Chain w d v → ∃ t a, v = .iface t (.pointer (some a))
  | 0, _, ⟨a, s, e, h⟩ => ⟨_, _, e⟩
  | d + 1, _, ⟨b, m, u, e, h0, h1, h2⟩ => ⟨_, _, e⟩

set_option maxHeartbeats 800000 in
theorem as_chain (d : Nat) (v : Value) (q t : Addr) (w : World) (hv : Chain w d v) :
    Calls Tryf.prog 14 #[v, .iface 30 (.pointer (some t)), .agg #[.pointer (some ⟨1, 30, none⟩), .pointer (some q), .int .u64 150], .iface 53 (.agg #[.pointer (some ⟨1, 28, none⟩)])] w fun e w' => e = .returned (.bool false) ∧ Below w.heap.size w w' := by
  have h16 := ext16
  have h44 := ext44
  have f1 := typeOf47
  have f1' := typeOf51
  have f2 := assignable47
  have f2' := assignable51
  have f3 := noAs47
  have f3' := noAs51
  have f4 := noUn47
  have f4' := hasUn51
  have f5 := noUns47
  have m1 := mAssignable
  have m2 := mUnwrap
  have HV : Hid (Chain w d v) := hv
  clear hv
  go_enter Tryf.func14, Tryf.ntmps14
  go_wp2
  go_loopg [0] d (fun k x wr => Chain wr k x ∧ Below w.heap.size w wr)
  case atStart => exact ⟨HV.out.keep ((Below.refl _ _).alloc (Nat.le_refl _) _), (Below.refl _ _).alloc (Nat.le_refl _) _⟩
  case round =>
    obtain ⟨hch, hbel⟩ := hrel
    rcases gk with _ | k
    · obtain ⟨a, s, rfl, h⟩ := hch
      go_wp2
      go_ret
      exact ⟨rfl, hbel⟩
    · obtain ⟨b, m, u, rfl, h0, h1, h2⟩ := hch
      obtain ⟨t', a', rfl⟩ := h2.form
      go_wp2_with (go_at_call 42; refine (unwrap_any b _ _ h1 ⟨_, _, rfl⟩).mono ?_; rintro e w2 ⟨rfl, hw2⟩; replace hw2 := hw2.symm; subst hw2)
      go_roundg k
      case measure => omega
      case rel => exact ⟨h2, hbel⟩

set_option maxHeartbeats 800000 in
/-- errors.As(err, &e), err a chain that bears no *Error. -/
theorem As_chain (d : Nat) (v : Value) (t : Addr) (w : World) (hv : Chain w d v) (hg : w.cell? ⟨0, 0, none⟩ = some (.iface 53 (.agg #[.pointer (some ⟨1, 25, none⟩)]))) :
    Calls Tryf.prog 8 #[v, .iface 30 (.pointer (some t))] w fun e w' => e = .returned (.bool false) ∧ Below w.heap.size w w' := by
  have h11 := ext11
  have h12 := ext12
  have h13 := ext13
  have h33 := ext33
  have h46 := ext46
  have h47 := ext47
  have f1 := valueOf30
  have f2 := type30
  have f3 := kind30
  have f3' := kind28
  have f4 := elem30
  have f5 := implements28
  have m1 := mKind
  have m2 := mElem
  have m3 := mImplements
  have n8 := isNil30 ⟨w.heap.size, 0, none⟩ t ((w.alloc (.cells #[.pointer (some t)] 30)).alloc (.cells #[.pointer (some ⟨1, 30, none⟩), .pointer (some ⟨w.heap.size, 0, none⟩), .int .u64 150] 37)) (by simp)
  have hg2 := cell_old (.cells #[.pointer (some ⟨1, 30, none⟩), .pointer (some ⟨w.heap.size, 0, none⟩), .int .u64 150] 37) (cell_old (.cells #[.pointer (some t)] 30) hg)
  have hlt : 0 < w.heap.size := cell_lt hg
  have hB : Below w.heap.size w ((w.alloc (.cells #[.pointer (some t)] 30)).alloc (.cells #[.pointer (some ⟨1, 30, none⟩), .pointer (some ⟨w.heap.size, 0, none⟩), .int .u64 150] 37)) := ((Below.refl _ _).alloc (Nat.le_refl _) _).alloc (by simp) _
  have HV : Hid (Chain _ d v) := hv.keep hB
  obtain ⟨tv, av, rfl⟩ := hv.form
  clear hv
  go_enter Tryf.func8, Tryf.ntmps8
  go_wp2_with (go_at_call 14; refine (as_chain d _ ⟨w.heap.size, 0, none⟩ t _ HV.out).mono ?_; rintro e w2 ⟨rfl, hb2⟩)
  go_ret
  exact ⟨rfl, hB.trans (hb2.mono (by simp; omega))⟩

/-- Of at a chain that bears no *Error: General. -/
theorem of_chain (d : Nat) (v : Value) (w : World) (hv : Chain w d v) (hg : w.cell? ⟨0, 0, none⟩ = some (.iface 53 (.agg #[.pointer (some ⟨1, 25, none⟩)]))) :
    Calls Tryf.prog 5 #[v] w fun e w' => e = .returned (.int .i64 1) ∧ Below w.heap.size w w' := by
  have hB : Below w.heap.size w (w.alloc (.cells #[.pointer none] 28)) := (Below.refl _ _).alloc (Nat.le_refl _) _
  have HV : Hid (Chain _ d v) := hv.keep hB
  have hg2 := cell_old (.cells #[.pointer none] 28) hg
  have hlt : 0 < w.heap.size := cell_lt hg
  obtain ⟨tv, av, rfl⟩ := hv.form
  clear hv
  go_enter Tryf.func5, Tryf.ntmps5
  go_wp2_with (go_at_call 8; refine (As_chain d _ ⟨w.heap.size, 0, none⟩ _ HV.out hg2).mono ?_; rintro e w2 ⟨rfl, hb2⟩)
  go_ret
  exact ⟨rfl, hB.trans (hb2.mono (by simp))⟩
end Go.Proofs.Qxb6616983aFmt
