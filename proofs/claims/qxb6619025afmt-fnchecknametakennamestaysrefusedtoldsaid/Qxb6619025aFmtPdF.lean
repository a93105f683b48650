import Derived.Test.Qxb6619025aFmtPdE
import Derived.Stop.CallBack
import Derived.Stop.IfaceNil
import GoSem.ClaimData
import Derived.Deep.RegionHeld3
import Derived.Deep.DrawnRows
namespace Go.Proofs.Qxb6619025aFmt
open Go.RowKit Go.Extern.Stop Go.Stop Go.Extern
set_option linter.unusedVariables false

theorem call22 (args : Array Value) (w : World) : (callFunc 22 args).run Tryf.prog w = ((FmtStop.sprintf #[9, 40] #[9] args).run Tryf.prog w).andThen fun v w' => .ok (.value v) w' :=
  run_callFunc_extern Tryf.func22 (by kernel_rfl) (by kernel_rfl) (by kernel_rfl) (by kernel_rfl) args w
theorem call28 (args : Array Value) (w : World) : (callFunc 28 args).run Tryf.prog w = (FmtCalls.errorf #[9, 40] #[29] args).run Tryf.prog w :=
  run_callFunc_next Tryf.func28 (by kernel_rfl) (by kernel_rfl) (by kernel_rfl) args w
theorem guardF (name : String) (w : World) : (FmtStop.guard name).run Tryf.prog w = .ok () w := by kernel_rfl
theorem nextTurns : Extern.next FmtCalls.turnsRow = some (FmtCalls.begun #[] #[]) := by kernel_rfl
theorem nextReturned : Extern.next FmtCalls.returnedRow = some (FmtCalls.returned #[] #[]) := by kernel_rfl
theorem fmtS : FmtStop.printed? ⟨#[37, 115, 32, 37, 100]⟩ 2 = some [(0, 115, false), (1, 100, false)] := by kernel_rfl
theorem fmtSr (w : World) : (FmtDoors.printed ⟨#[37, 115, 32, 37, 100]⟩ 2).run Tryf.prog w = .ok [(0, 115, false), (1, 100, false)] w := by kernel_rfl
theorem fmtE : FmtStop.printed? ⟨#[37, 115, 58, 32, 110, 97, 109, 101, 32, 37, 113, 32, 105, 115, 32, 97, 108, 114, 101, 97, 100, 121, 32, 97, 110, 111, 116, 104, 101, 114, 32, 37, 115, 39, 115]⟩ 3 = some [(0, 115, false), (1, 113, false), (2, 115, false)] := by kernel_rfl
theorem fmtEr (w : World) : (FmtDoors.printed ⟨#[37, 115, 58, 32, 110, 97, 109, 101, 32, 37, 113, 32, 105, 115, 32, 97, 108, 114, 101, 97, 100, 121, 32, 97, 110, 111, 116, 104, 101, 114, 32, 37, 115, 39, 115]⟩ 3).run Tryf.prog w = .ok [(0, 115, false), (1, 113, false), (2, 115, false)] w := by kernel_rfl
def shape3 : List UInt8 := [5, 3, 0, 0, 0, 0, 0, 0, 0, 105, 110, 116]
def shape9 : List UInt8 := [12, 6, 0, 0, 0, 0, 0, 0, 0, 115, 116, 114, 105, 110, 103]
theorem op3_100 (name : String) (x : Int) (w : World) : (FmtStop.operand name false 100 false (.iface 3 (.int .i64 x))).run Tryf.prog w = .ok (shape3, Go.Extern.Stop.digits 8 (x % 2 ^ 64).toNat) w := by kernel_rfl
theorem op9_115 (name : String) (x : ByteArray) (w : World) : (FmtStop.operand name false 115 false (.iface 9 (.string x))).run Tryf.prog w = .ok (shape9, FmtStop.pack x.data.toList) w := by kernel_rfl
theorem op9_115w (name : String) (x : ByteArray) (w : World) : (FmtStop.operand name true 115 false (.iface 9 (.string x))).run Tryf.prog w = .ok (shape9, FmtStop.pack x.data.toList) w := by kernel_rfl
theorem op9_113w (name : String) (x : ByteArray) (w : World) : (FmtStop.operand name true 113 false (.iface 9 (.string x))).run Tryf.prog w = .ok (shape9, FmtStop.pack x.data.toList) w := by kernel_rfl
theorem act9_115w (name : String) (x : Value) (w : World) : (FmtCalls.act name true 115 false (.iface 9 x)).run Tryf.prog w = .ok (.closed true) w := by kernel_rfl
theorem act9_113w (name : String) (x : Value) (w : World) : (FmtCalls.act name true 113 false (.iface 9 x)).run Tryf.prog w = .ok (.closed true) w := by kernel_rfl
theorem act39_115w (name : String) (x : Value) (w : World) : (FmtCalls.act name true 115 false (.iface 39 x)).run Tryf.prog w = .ok (.call false) w := by kernel_rfl
theorem isString39 (w : World) : (FmtDoors.textMethod 39 "String").run Tryf.prog w = .ok true w := by kernel_rfl
theorem invokeString39 (x : Value) (w : World) : (invoke (.fn (.method "String") #[]) #[.iface 39 x]).run Tryf.prog w = .ok (.enter 46 #[x]) w := by kernel_rfl
theorem str39 (w : World) : (typeStr 39).run Tryf.prog w = .ok Tryf.t39.str w := by kernel_rfl
theorem str9 (w : World) : (typeStr 9).run Tryf.prog w = .ok "string" w := by kernel_rfl
theorem ptr61 (w : World) : (FmtStop.ptrTo "errors.errorString").run Tryf.prog w = .ok 61 w := by kernel_rfl
theorem ptr59 (w : World) : (FmtStop.ptrTo "fmt.wrapError").run Tryf.prog w = .ok 59 w := by kernel_rfl
theorem isError61 (w : World) : (FmtDoors.textMethod 61 "Error").run Tryf.prog w = .ok true w := by kernel_rfl
attribute [local go_sem ↓] Go.wp_at_zero Go.wp_at_succ
attribute [local go_sem] call22 call28 guardF fmtS fmtSr fmtE fmtEr op3_100 op9_115 op9_115w op9_113w act9_115w act9_113w act39_115w isString39 str39 str9 ptr61 ptr59 isError61

/-- What fmt.Sprintf is asked. -/
def sReading (p : List UInt8) (n : Int) : List (List UInt8) := [[37, 115, 32, 37, 100], shape9, FmtStop.pack p, shape3, Go.Extern.Stop.digits 8 (n % 18446744073709551616).toNat]

theorem keep2 {w : World} {a : Addr} {b : Nat} (hab : a.block ≠ b) (u v : Value) : ((w.setCell ⟨b, 0, none⟩ u).setCell ⟨b, 1, none⟩ v).cell? a = w.cell? a := by
  have h1 := Below.heap_setCell (w.setCell ⟨b, 0, none⟩ u) ⟨b, 1, none⟩ v a.block hab
  have h2 := Below.heap_setCell w ⟨b, 0, none⟩ u a.block hab
  rw [World.cell?_of_block h1, World.cell?_of_block h2]

theorem StepAt.set2 {w : World} {g cap : Nat} {n : Int} {b : Nat} {a : Option Addr} {l c : Nat} (h : StepAt w g cap n) (hb : w.cell? ⟨b, 0, none⟩ = some (.slice a l c)) (u v : Value) : StepAt ((w.setCell ⟨b, 0, none⟩ u).setCell ⟨b, 1, none⟩ v) g cap n := by
  have hne : g ≠ b := by
    intro e
    subst e
    have := h.c0
    rw [hb] at this
    cases this
  exact ⟨h.cap, (keep2 hne u v).trans h.c0, (keep2 hne u v).trans h.c1⟩

/-- The key that List.element gives. -/
structure KeyAt (w : World) (g cap : Nat) (n : Int) (t : ByteArray) (e : Ending) : Prop where
  ret : e = .returned (.agg #[.slice (some ⟨g, 0, none⟩) 1 cap, .string t])
  step : StepAt w g cap n

set_option maxHeartbeats 800000 in
/-- List.element. -/
theorem element_any (F : Interp) (LB : Nat) (noun pre : ByteArray) (sv : Value) (xs : List ByteArray) (n : Int) (w : World) (hF : F.answers w.tape) (h : LAt w LB noun pre sv xs) :
    Calls Tryf.prog 17 #[.pointer (some ⟨LB, 0, none⟩), .int .i64 n] w fun e w' => (∃ g cap, KeyAt w' g cap n (FmtStop.textOf (F "fmt.Sprintf" (sReading pre.data.toList n) 0)) e) ∧ Below w.heap.size w w' := by
  have hF' := answers_open hF
  have hlt := h.lt
  have c0 : w.cell? ⟨LB, 0, none⟩ = some (.slice Option.none 0 0) := by simp [World.cell?, h.blk]
  have c1 : w.cell? ⟨LB, 1, none⟩ = some (.string ⟨#[]⟩) := by simp [World.cell?, h.blk]
  have c4 : w.cell? ⟨LB, 4, none⟩ = some (.string pre) := by simp [World.cell?, h.blk]
  clear h
  go_enter Tryf.func17, Tryf.ntmps17
  go_wp2
  go_region_held3 (fun w' => w'.cell? ⟨LB, 0, none⟩ = some (.slice Option.none 0 0) ∧ w'.cell? ⟨LB, 1, none⟩ = some (.string ⟨#[]⟩) ∧ w'.cell? ⟨LB, 4, none⟩ = some (.string pre)) (first | (exact ⟨(hcc LB 0 (by simp; omega)).trans (cell_old _ (cell_old _ c0)), (hcc LB 1 (by simp; omega)).trans (cell_old _ (cell_old _ c1)), (hcc LB 4 (by simp; omega)).trans (cell_old _ (cell_old _ c4))⟩) | (exact ⟨(keep2 (by simp; omega) _ _).trans ((hcc LB 0 (by simp; omega)).trans (cell_old _ (cell_old _ c0))), (keep2 (by simp; omega) _ _).trans ((hcc LB 1 (by simp; omega)).trans (cell_old _ (cell_old _ c1))), (keep2 (by simp; omega) _ _).trans ((hcc LB 4 (by simp; omega)).trans (cell_old _ (cell_old _ c4)))⟩) | go_keep)
    (first | (go_at_call 21; refine (kelement_any n _ _).mono ?_; rintro e w2 ⟨g, cap, rfl, hst, hb2⟩; obtain ⟨hcc, hff⟩ := bcell hb2))
  all_goals
    go_wp2
    have hr0 : w2.cell? ⟨w.heap.size, 0, none⟩ = some (.slice Option.none 0 0) := by rw [hcc _ _ (by simp; omega)]; simp [go_sem]
    have hr1 : w2.cell? ⟨w.heap.size, 1, none⟩ = some (.string ⟨#[]⟩) := by rw [hcc _ _ (by simp; omega)]; simp [go_sem]
    have hbl : Below w.heap.size w w2 := ((((Below.refl _ w).alloc (Nat.le_refl _) _).alloc (by simp) _).drew.drew).trans (hb2.mono (by simp; omega))
    exact bodyPost_ret (v := .agg #[.slice (some ⟨g, 0, none⟩) 1 cap, .string (FmtStop.textOf (F "fmt.Sprintf" (sReading pre.data.toList n) 0))]) (by simp [results, Tryf.results17, go_sem, hr0, hr1, sReading]) rfl
      ⟨⟨g, cap, rfl, hst.set2 hr0 _ _⟩, (hbl.setCell (by simp) _).setCell (by simp) _⟩
end Go.Proofs.Qxb6619025aFmt
