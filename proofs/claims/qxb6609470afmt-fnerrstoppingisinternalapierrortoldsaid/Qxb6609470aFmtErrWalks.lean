/-
  The walk of FnErrStoppingIsInternalAPIError: five functions, fmt.Sprintf by its calling stop with no operand.
-/
import Derived.Test.Qxb6609470aFmtRows
import Derived.Stop.CallBack
import Derived.Stop.IfaceNil
import GoSem.ClaimData
import Derived.WalkKit
import Derived.WalkSpells
namespace Go.Proofs.Qxb6609470aFmt
open Go.RowKit Go.Extern.Stop Go.Stop Go.Extern

theorem call8 (args : Array Value) (w : World) : (callFunc 8 args).run Tryf.prog w = (FmtCalls.sprintf #[9, 33] #[9] args).run Tryf.prog w :=
  run_callFunc_next Tryf.func8 (by kernel_rfl) (by kernel_rfl) (by kernel_rfl) args w

theorem guardOk (name : String) (w : World) : (FmtStop.guard name).run Tryf.prog w = .ok () w := by kernel_rfl
theorem nextTurns : Extern.next FmtCalls.turnsRow = some (FmtCalls.begun #[] #[]) := by kernel_rfl

/-- "the server is stopping, and has not loaded its runs" -/
abbrev msg : ByteArray := ⟨#[116, 104, 101, 32, 115, 101, 114, 118, 101, 114, 32, 105, 115, 32, 115, 116, 111, 112, 112, 105, 110, 103, 44, 32, 97, 110, 100, 32, 104, 97, 115, 32, 110, 111, 116, 32, 108, 111, 97, 100, 101, 100, 32, 105, 116, 115, 32, 114, 117, 110, 115]⟩
/-- "internal_error" -/
abbrev codeI : ByteArray := ⟨#[105, 110, 116, 101, 114, 110, 97, 108, 95, 101, 114, 114, 111, 114]⟩

theorem fmt0 : FmtStop.printed? msg 0 = some [] := by kernel_rfl

set_option maxHeartbeats 800000 in
/-- newError(code, msg): a new block with the code and some text. -/
theorem newError_any (w : World) :
    Calls Tryf.prog 7 #[.string codeI, .string msg, .slice none 0 0] w fun e w' => ∃ s : ByteArray, e = .returned (.pointer (some ⟨w.heap.size, 0, none⟩)) ∧ w' = (w.alloc (.cells #[.string codeI, .string s] 31)).drew := by
  have hc := call8
  have hg := guardOk
  have hf := fmt0
  go_enter Tryf.func7, Tryf.ntmps7
  go_wp2
  apply rows_value nextTurns
  case hr =>
    go_simp
    exact ⟨rfl, rfl⟩
  case h =>
    go_wp2
    go_ret
    exact ⟨_, rfl, rfl⟩

set_option maxHeartbeats 800000 in
theorem errStopping_any (w : World) :
    Calls Tryf.prog 6 #[] w fun e w' => ∃ s : ByteArray, e = .returned (.iface 22 (.pointer (some ⟨w.heap.size, 0, none⟩))) ∧ w' = (w.alloc (.cells #[.string codeI, .string s] 31)).drew := by
  go_enter Tryf.func6, Tryf.ntmps6
  go_wp2_with (go_at_call 7; refine (newError_any _).mono ?_; rintro e w' ⟨s, rfl, rfl⟩)
  go_ret
  exact ⟨_, rfl, rfl⟩

theorem assert22 (a : Option Addr) (w : World) : (Instr.typeAssert (.iface 22 (.pointer a)) 28 22 true).run Tryf.prog w = .ok (.tuple #[.pointer a, .bool true]) w := by kernel_rfl

set_option maxHeartbeats 800000 in
theorem errStoppingAPI_any (w : World) :
    Calls Tryf.prog 4 #[] w fun e w' => ∃ s : ByteArray, e = .returned (.pointer (some ⟨w.heap.size, 0, none⟩)) ∧ w' = (w.alloc (.cells #[.string codeI, .string s] 31)).drew := by
  have ha := assert22
  go_enter Tryf.func4, Tryf.ntmps4
  go_wp2_with (go_at_call 6; refine (errStopping_any _).mono ?_; rintro e w' ⟨s, rfl, rfl⟩)
  go_ret
  exact ⟨_, rfl, rfl⟩

set_option maxHeartbeats 800000 in
theorem law_any (w : World) :
    Calls Tryf.prog 3 #[] w fun e w' => ∃ s : ByteArray, e = .returned (.bool true) ∧ w' = (w.alloc (.cells #[.string codeI, .string s] 31)).drew := by
  go_enter Tryf.func3, Tryf.ntmps3
  go_wp2_with (first | (go_at_call 4; refine (errStoppingAPI_any _).mono ?_; rintro e w' ⟨s, rfl, rfl⟩) | go_in)
  go_ret
  exact ⟨_, rfl, rfl⟩

end Go.Proofs.Qxb6609470aFmt
