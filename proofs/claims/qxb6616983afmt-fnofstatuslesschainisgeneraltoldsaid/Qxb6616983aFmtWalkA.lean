import Derived.Test.Qxb6616983aFmtRows
import Derived.WalkKit
import Derived.WalkSpells
import Derived.LaidEql
import Derived.Stop.Asserts
import Derived.Stop.CallBack
import Derived.Stop.IfaceNil
import Derived.RowKitTokens
import Derived.Below
import GoSem.ClaimData
namespace Go.Proofs.Qxb6616983aFmt
open Go.RowKit Go.Extern.Stop Go.Stop Go.Extern
set_option linter.unusedVariables false

theorem call15 (args : Array Value) (w : World) : (callFunc 15 args).run Tryf.prog w = (FmtCalls.errorf #[9, 50] #[25] args).run Tryf.prog w :=
  run_callFunc_next Tryf.func15 (by kernel_rfl) (by kernel_rfl) (by kernel_rfl) args w
theorem guardF (name : String) (w : World) : (FmtStop.guard name).run Tryf.prog w = .ok () w := by kernel_rfl
theorem nextTurns : Extern.next FmtCalls.turnsRow = some (FmtCalls.begun #[] #[]) := by kernel_rfl
theorem fmt0 : FmtStop.printed? ⟨#[99, 111, 110, 116, 101, 120, 116, 58, 32, 37, 119]⟩ 1 = some [(0, 119, false)] := by kernel_rfl
theorem fmt0r (w : World) : (FmtDoors.printed ⟨#[99, 111, 110, 116, 101, 120, 116, 58, 32, 37, 119]⟩ 1).run Tryf.prog w = .ok [(0, 119, false)] w := by kernel_rfl
theorem act47 (name : String) (x : Value) (w : World) : (FmtCalls.act name true 119 false (.iface 47 x)).run Tryf.prog w = .ok (.closed true) w := by kernel_rfl
theorem act51 (name : String) (x : Value) (w : World) : (FmtCalls.act name true 119 false (.iface 51 x)).run Tryf.prog w = .ok (.closed true) w := by kernel_rfl
theorem ptr47 (w : World) : (FmtStop.ptrTo "errors.errorString").run Tryf.prog w = .ok 47 w := by kernel_rfl
theorem elem47 (w : World) : (elemOf 47).run Tryf.prog w = .ok 49 w := by kernel_rfl
theorem isError47 (w : World) : (FmtDoors.textMethod 47 "Error").run Tryf.prog w = .ok true w := by kernel_rfl
theorem ptr51 (w : World) : (FmtStop.ptrTo "fmt.wrapError").run Tryf.prog w = .ok 51 w := by kernel_rfl
theorem elem51 (w : World) : (elemOf 51).run Tryf.prog w = .ok 85 w := by kernel_rfl
theorem isError51 (w : World) : (FmtDoors.textMethod 51 "Error").run Tryf.prog w = .ok true w := by kernel_rfl
theorem str47 (w : World) : (typeStr 47).run Tryf.prog w = .ok Tryf.t47.str w := by kernel_rfl
theorem str51 (w : World) : (typeStr 51).run Tryf.prog w = .ok Tryf.t51.str w := by kernel_rfl
attribute [local go_sem] call15 guardF fmt0 fmt0r act47 act51 ptr47 elem47 isError47 ptr51 elem51 isError51 str47 str51
theorem op47 (a : Addr) (s : ByteArray) (w : World) (hc : w.cell? a = some (.string s)) :
    ∃ pl : List UInt8, ∀ name, (FmtStop.operand name true 119 false (.iface 47 (.pointer (some a)))).run Tryf.prog w = .ok (pl, s.data.toList) w := by
  have h1 := str47 w
  have d2 : Tryf.t47.desc = .pointer 49 := rfl
  have d3 : Tryf.t49.desc = .named "errors.errorString" 48 := rfl
  exact ⟨14 :: FmtStop.pack Tryf.t47.str.toUTF8.data.toList, fun name => by simp [FmtStop.operand, h1, d2, d3, run_load, hc]⟩
theorem op51 (a : Addr) (s : ByteArray) (w : World) (hc : w.cell? a = some (.string s)) :
    ∃ pl : List UInt8, ∀ name, (FmtStop.operand name true 119 false (.iface 51 (.pointer (some a)))).run Tryf.prog w = .ok (pl, s.data.toList) w := by
  have h1 := str51 w
  have d2 : Tryf.t51.desc = .pointer 85 := rfl
  have d3 : Tryf.t85.desc = .named "fmt.wrapError" 84 := rfl
  exact ⟨14 :: FmtStop.pack Tryf.t51.str.toUTF8.data.toList, fun name => by simp [FmtStop.operand, h1, d2, d3, run_load, hc]⟩
theorem cell_lt {w : World} {a : Addr} {v : Value} (h : w.cell? a = some v) : a.block < w.heap.size := by
  rcases Nat.lt_or_ge a.block w.heap.size with h1 | h1
  · exact h1
  · simp [World.cell?, Array.getElem?_eq_none h1] at h
theorem cell_old {w : World} {a : Addr} {v : Value} (o : Obj) (h : w.cell? a = some v) : (w.alloc o).cell? a = some v := by
  rw [World.cell?_alloc_old _ _ _ (Nat.ne_of_lt (cell_lt h))]; exact h

/-- fmt.Errorf over an error of errors.New, wrapped. -/
theorem errorf47 (F : Interp) (a : Addr) (s : ByteArray) (blk : Nat) (w : World) (hF : F.answers w.tape) (hb : w.cell? ⟨blk, 0, none⟩ = some (.iface 47 (.pointer (some a)))) (hc : w.cell? a = some (.string s)) :
    Calls Tryf.prog 10 #[.string ⟨#[99, 111, 110, 116, 101, 120, 116, 58, 32, 37, 119]⟩, .slice (some ⟨blk, 0, none⟩) 1 1] w fun e w' =>
      ∃ m, e = .returned (.iface 51 (.pointer (some ⟨w.heap.size, 0, none⟩))) ∧ w' = (w.alloc (.cells #[.string m, .iface 47 (.pointer (some a))] 85)).drew := by
  have hF' := answers_open hF
  obtain ⟨pl, hop⟩ := op47 a s w hc
  go_enter Tryf.func10, Tryf.ntmps10
  go_wp2
  apply rows_value nextTurns
  case hr =>
    go_simp
    exact ⟨rfl, rfl⟩
  case h =>
    go_wp2
    go_ret
    exact ⟨_, rfl, rfl⟩
/-- fmt.Errorf over an error of its own make, wrapped. -/
theorem errorf51 (F : Interp) (a : Addr) (s : ByteArray) (blk : Nat) (w : World) (hF : F.answers w.tape) (hb : w.cell? ⟨blk, 0, none⟩ = some (.iface 51 (.pointer (some a)))) (hc : w.cell? a = some (.string s)) :
    Calls Tryf.prog 10 #[.string ⟨#[99, 111, 110, 116, 101, 120, 116, 58, 32, 37, 119]⟩, .slice (some ⟨blk, 0, none⟩) 1 1] w fun e w' =>
      ∃ m, e = .returned (.iface 51 (.pointer (some ⟨w.heap.size, 0, none⟩))) ∧ w' = (w.alloc (.cells #[.string m, .iface 51 (.pointer (some a))] 85)).drew := by
  have hF' := answers_open hF
  obtain ⟨pl, hop⟩ := op51 a s w hc
  go_enter Tryf.func10, Tryf.ntmps10
  go_wp2
  apply rows_value nextTurns
  case hr =>
    go_simp
    exact ⟨rfl, rfl⟩
  case h =>
    go_wp2
    go_ret
    exact ⟨_, rfl, rfl⟩

/-- ZZwrapPlain. -/
theorem wrap47 (F : Interp) (a : Addr) (s : ByteArray) (w : World) (hF : F.answers w.tape) (hc : w.cell? a = some (.string s)) :
    Calls Tryf.prog 7 #[.iface 47 (.pointer (some a))] w fun e w' =>
      ∃ m, e = .returned (.iface 51 (.pointer (some ⟨w.heap.size + 1, 0, none⟩))) ∧ w' = ((w.alloc (.cells #[.iface 47 (.pointer (some a))] 20)).alloc (.cells #[.string m, .iface 47 (.pointer (some a))] 85)).drew := by
  go_enter Tryf.func7, Tryf.ntmps7
  go_wp2_with (go_at_call 10; refine (errorf47 F a s w.heap.size _ (by exact hF) (by simp [go_sem]) (cell_old _ hc)).mono ?_; rintro e w' ⟨m, rfl, rfl⟩)
  go_ret
  exact ⟨m, by simp, rfl⟩
theorem wrap51 (F : Interp) (a : Addr) (s : ByteArray) (w : World) (hF : F.answers w.tape) (hc : w.cell? a = some (.string s)) :
    Calls Tryf.prog 7 #[.iface 51 (.pointer (some a))] w fun e w' =>
      ∃ m, e = .returned (.iface 51 (.pointer (some ⟨w.heap.size + 1, 0, none⟩))) ∧ w' = ((w.alloc (.cells #[.iface 51 (.pointer (some a))] 20)).alloc (.cells #[.string m, .iface 51 (.pointer (some a))] 85)).drew := by
  go_enter Tryf.func7, Tryf.ntmps7
  go_wp2_with (go_at_call 10; refine (errorf51 F a s w.heap.size _ (by exact hF) (by simp [go_sem]) (cell_old _ hc)).mono ?_; rintro e w' ⟨m, rfl, rfl⟩)
  go_ret
  exact ⟨m, by simp, rfl⟩

/-- ZZplain. -/
theorem plain_any (s : ByteArray) (w : World) :
    Calls Tryf.prog 6 #[.string s] w fun e w' => e = .returned (.iface 47 (.pointer (some ⟨w.heap.size, 0, none⟩))) ∧ w' = w.alloc (.cells #[.string s] 49) := by
  go_enter Tryf.func6, Tryf.ntmps6
  go_wp2
  go_ret
  exact ⟨rfl, rfl⟩
theorem bytes_any (s : ByteArray) (d : Int) (w : World) (hs : s.size ≤ 9223372036854775807) :
    Calls Tryf.prog 4 #[.string s, .int .i64 d] w fun e w' => e = .returned (.bool (decide (s.size ≤ 1048576))) ∧ w' = w := by
  by_cases h : s.size ≤ 1048576
  · have h1 : ¬ (1048576 : Int) < (s.size : Int) := by omega
    go_enter Tryf.func4, Tryf.ntmps4
    go_wp2
    go_ret
    exact ⟨by simp, rfl⟩
  · have h1 : (1048576 : Int) < (s.size : Int) := by omega
    go_enter Tryf.func4, Tryf.ntmps4
    go_wp2
    go_ret
    exact ⟨by simp [h], rfl⟩
theorem of_nil (w : World) : Calls Tryf.prog 5 #[.nilIface] w fun e w' => e = .returned (.int .i64 0) ∧ w' = w := by
  go_enter Tryf.func5, Tryf.ntmps5
  go_wp2
  go_ret
  exact ⟨rfl, rfl⟩
/-- (*fmt.wrapError).Unwrap. -/
theorem unwrap_any (b : Nat) (v : Value) (w : World) (h : w.cell? ⟨b, 1, none⟩ = some v) (hv : ∃ t a, v = .iface t (.pointer (some a))) :
    Calls Tryf.prog 42 #[.pointer (some ⟨b, 0, none⟩)] w fun e w' => e = .returned v ∧ w' = w := by
  obtain ⟨t, a, rfl⟩ := hv
  go_enter Tryf.func42, Tryf.ntmps42
  go_wp2
  go_ret
  exact ⟨rfl, rfl⟩
end Go.Proofs.Qxb6616983aFmt
