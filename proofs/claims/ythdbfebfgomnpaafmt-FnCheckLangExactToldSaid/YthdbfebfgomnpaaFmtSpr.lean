/- What the call of fmt.Sprintf at a format without verbs and no operand does: some text. Conditions: none. -/
import Derived.Test.YthdbfebfgomnpaaFmtPar2
import Derived.Stop.CallBack
import Derived.Stop.IfaceNil
import GoSem.ClaimData
namespace Go.Proofs.YthdbfebfgomnpaaFmt
open Go.RowKit Go.Extern.Stop Go.Stop Go.Extern
set_option linter.unusedVariables false

theorem call_spr (args : Array Value) (w : World) : (callFunc 15 args).run Tryf.prog w = (FmtCalls.sprintf #[9, 63] #[9] args).run Tryf.prog w :=
  run_callFunc_next Tryf.func15 (by kernel_rfl) (by kernel_rfl) (by kernel_rfl) args w
theorem guard_spr (name : String) (w : World) : (FmtStop.guard name).run Tryf.prog w = .ok () w := by kernel_rfl
theorem next_turns : Extern.next FmtCalls.turnsRow = some (FmtCalls.begun #[] #[]) := by kernel_rfl
def feat : ByteArray := ⟨#[102, 101, 97, 116, 117, 114, 101]⟩
theorem fmt_feat : FmtStop.printed? ⟨#[102, 101, 97, 116, 117, 114, 101]⟩ 0 = some [] := by kernel_rfl
theorem fmt_featr (w : World) : (FmtDoors.printed ⟨#[102, 101, 97, 116, 117, 114, 101]⟩ 0).run Tryf.prog w = .ok [] w := by kernel_rfl
theorem spr_row (w : World) : (callFunc 15 #[.string ⟨#[102, 101, 97, 116, 117, 114, 101]⟩, .slice none 0 0]).run Tryf.prog w = .ok (.row FmtCalls.turnsRow (FmtCalls.save 0 0 (.slice none 0 0) ⟨#[102, 101, 97, 116, 117, 114, 101]⟩ [] [])) w := by
  rw [call_spr]
  have hg := guard_spr
  have h1 := fmt_feat
  have h2 := fmt_featr
  go_simp
theorem spr_rows (w : World) (R : Value → World → Prop) (h : ∀ t : ByteArray, R (.string t) w.drew) : Rows Tryf.prog FmtCalls.turnsRow (FmtCalls.save 0 0 (.slice none 0 0) ⟨#[102, 101, 97, 116, 117, 114, 101]⟩ [] []) w R := by
  apply rows_value next_turns
  case hr =>
    go_simp
    exact ⟨rfl, rfl⟩
  case h => exact h _
end Go.Proofs.YthdbfebfgomnpaaFmt
