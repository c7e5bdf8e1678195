/-
  No cell of these rows narrows 'for every input' (looked for: loops, veiled, ifaces, maps, wideKeys, modest, calm, conditions, laid).
  DERIVED. THE GIVEN ROWS OF THIS SEAT. 3 by the template 'for every input the law returns true; each argument reads behind the call as it read before'; 0 by the template 'total and deterministic' (their statements: YthkkhbdhminjfaaTotals.lean).
  GIVEN WITH THE SEED: the statements are not yours to turn. If you find one false, say at which input.
  Laid BY PROGRAM, IN A SANDBOX (cutbox-rows.mjs): the forced cells as the released guide's own fill.sh prints them over the translation e3670846b880fb18… (all of the seat's roots in one cut). By AI agents, Wed Nov 11 2026. No macro, syntax, notation, axiom, sorry.
-/
import Derived.Test.YthkkhbdhminjfaaChecked
import GoSem.Claim
import GoSem.ClaimJoined
import GoSem.ClaimMapViews
import Derived.JoinedTies
import Derived.KernelRfl
namespace Go.Proofs.Ythkkhbdhminjfaa
/- THE CELL 'sum', in the pinned program and in every row, IS THE sha256 OF THE DUMP (.gsa) THAT YthkkhbdhminjfaaProg.lean LOADS. Nothing in Lean hashes anything: it is a label: what it is worth is what the hold of that sum in a sandbox is worth. -/
noncomputable def Try.pinned : Pinned := { name := "ythkkhbdhminjfaa", sum := "e3670846b880fb1863d1ed7683ebc9c70e57bb131b9eb5719fcff76c36a41b58", checked := Try.checked }
namespace Rows
def none {H : Type} : Left H := { results := [], args := [] }

/-- 'n010_10.FnPosIsValidExact': WHATEVER THE INPUT: true; the input reads as it did. -/
def fnPosIsValidExactSpec : ChangeSpec := { name := "fnPosIsValidExact", fn := fun _ => fun
  | [d1, d2, d3] => { results := [.lit (.bool true)], args := [d1, d2, d3] }
  | _ => none }
def fnPosIsValidExactRow : OpenClaim := { program := "ythkkhbdhminjfaa", sum := "e3670846b880fb1863d1ed7683ebc9c70e57bb131b9eb5719fcff76c36a41b58", func := "mvdan.cc/sh/v3/n010_10.FnPosIsValidExact", spec := "fnPosIsValidExact", apart := false }
def FnPosIsValidExactSaid : Prop := fnPosIsValidExactRow.holds Try.pinned (OpenSpec.ofChange fnPosIsValidExactSpec)

/-- ITS FALSE NEIGHBOUR: 'it returns false'. Refute it at one input. -/
def fnPosIsValidExactWrong : ChangeSpec := { name := "fnPosIsValidExact", fn := fun _ => fun
  | [d1, d2, d3] => { results := [.lit (.bool false)], args := [d1, d2, d3] }
  | _ => none }
def FnPosIsValidExactWrongFalsely : Prop := fnPosIsValidExactRow.holds Try.pinned (OpenSpec.ofChange fnPosIsValidExactWrong)

/-- 'n010_108.FnTestClauseEndMonotone': WHATEVER THE INPUT: true; the input reads as it did. -/
def fnTestClauseEndMonotoneSpec : ChangeSpec := { name := "fnTestClauseEndMonotone", fn := fun _ => fun
  | [d1, d2, d3, d4] => { results := [.lit (.bool true)], args := [d1, d2, d3, d4] }
  | _ => none }
def fnTestClauseEndMonotoneRow : OpenClaim := { program := "ythkkhbdhminjfaa", sum := "e3670846b880fb1863d1ed7683ebc9c70e57bb131b9eb5719fcff76c36a41b58", func := "mvdan.cc/sh/v3/n010_108.FnTestClauseEndMonotone", spec := "fnTestClauseEndMonotone", apart := false }
def FnTestClauseEndMonotoneSaid : Prop := fnTestClauseEndMonotoneRow.holds Try.pinned (OpenSpec.ofChange fnTestClauseEndMonotoneSpec)

/-- ITS FALSE NEIGHBOUR: 'it returns false'. Refute it at one input. -/
def fnTestClauseEndMonotoneWrong : ChangeSpec := { name := "fnTestClauseEndMonotone", fn := fun _ => fun
  | [d1, d2, d3, d4] => { results := [.lit (.bool false)], args := [d1, d2, d3, d4] }
  | _ => none }
def FnTestClauseEndMonotoneWrongFalsely : Prop := fnTestClauseEndMonotoneRow.holds Try.pinned (OpenSpec.ofChange fnTestClauseEndMonotoneWrong)

/-- 'n010_10.FnPosAfterStrictOrder': WHATEVER THE INPUT: true; the input reads as it did. -/
def fnPosAfterStrictOrderSpec : ChangeSpec := { name := "fnPosAfterStrictOrder", fn := fun _ => fun
  | [d1, d2, d3, d4, d5, d6, d7, d8, d9] => { results := [.lit (.bool true)], args := [d1, d2, d3, d4, d5, d6, d7, d8, d9] }
  | _ => none }
def fnPosAfterStrictOrderRow : OpenClaim := { program := "ythkkhbdhminjfaa", sum := "e3670846b880fb1863d1ed7683ebc9c70e57bb131b9eb5719fcff76c36a41b58", func := "mvdan.cc/sh/v3/n010_10.FnPosAfterStrictOrder", spec := "fnPosAfterStrictOrder", apart := false }
def FnPosAfterStrictOrderSaid : Prop := fnPosAfterStrictOrderRow.holds Try.pinned (OpenSpec.ofChange fnPosAfterStrictOrderSpec)

/-- ITS FALSE NEIGHBOUR: 'it returns false'. Refute it at one input. -/
def fnPosAfterStrictOrderWrong : ChangeSpec := { name := "fnPosAfterStrictOrder", fn := fun _ => fun
  | [d1, d2, d3, d4, d5, d6, d7, d8, d9] => { results := [.lit (.bool false)], args := [d1, d2, d3, d4, d5, d6, d7, d8, d9] }
  | _ => none }
def FnPosAfterStrictOrderWrongFalsely : Prop := fnPosAfterStrictOrderRow.holds Try.pinned (OpenSpec.ofChange fnPosAfterStrictOrderWrong)

/- THE SECOND FORM. 'bulk': how many values and letters a reading holds, each counted each time it is reached (what is shared counts as often as it is met; a slice's spare places count too). A statement '..UptoSaid' is the law's where the arguments, and the package variables that the reading takes, are together of bulk at most 1048576: NARROWER than '..Said'. Prove '..Said' where nothing that the law and all that it calls make is longer than what came in: it says more and counts as full. Else prove '..UptoSaid'. A law counts once. -/
mutual
def uptoBulk {H : Type} : DataW H → Nat
  | .lit (.string bytes) => bytes.length + 1
  | .lit _ => 1
  | .nil => 1
  | .ptr d => uptoBulk d + 1
  | .slice elems spare => uptoBulkAll elems + uptoBulkAll spare + 1
  | .agg parts => uptoBulkAll parts + 1
  | .iface _ d => uptoBulk d + 1
  | .map entries => uptoBulkEntries entries + 1
  | .held _ => 1
def uptoBulkAll {H : Type} : List (DataW H) → Nat
  | [] => 0
  | d :: r => uptoBulk d + uptoBulkAll r
def uptoBulkEntries {H : Type} : List (Lit × DataW H) → Nat
  | [] => 0
  | x :: r => uptoBulkEntry x + uptoBulkEntries r
def uptoBulkEntry {H : Type} : Lit × DataW H → Nat
  | (.string bytes, d) => bytes.length + uptoBulk d + 1
  | (_, d) => uptoBulk d + 1
 end
def uptoSmall : (H : Type) → List (DataW H) → Bool := fun _ ds => decide (uptoBulkAll ds ≤ 1048576)
def OpenSpec.upto (s : _root_.Go.ChangeSpec) : _root_.Go.OpenSpec := { _root_.Go.OpenSpec.ofChange s with cond := some uptoSmall }

/-- 'n010_10.FnPosIsValidExact', WHERE WHAT IT READS IS OF BULK AT MOST 1048576: true; the input reads as it did. -/
def fnPosIsValidExactUptoRow : OpenClaim := { program := "ythkkhbdhminjfaa", sum := "e3670846b880fb1863d1ed7683ebc9c70e57bb131b9eb5719fcff76c36a41b58", func := "mvdan.cc/sh/v3/n010_10.FnPosIsValidExact", spec := "fnPosIsValidExact", apart := false, narrowed := true }
def FnPosIsValidExactUptoSaid : Prop := fnPosIsValidExactUptoRow.holds Try.pinned (OpenSpec.upto fnPosIsValidExactSpec)

/-- 'n010_108.FnTestClauseEndMonotone', WHERE WHAT IT READS IS OF BULK AT MOST 1048576: true; the input reads as it did. -/
def fnTestClauseEndMonotoneUptoRow : OpenClaim := { program := "ythkkhbdhminjfaa", sum := "e3670846b880fb1863d1ed7683ebc9c70e57bb131b9eb5719fcff76c36a41b58", func := "mvdan.cc/sh/v3/n010_108.FnTestClauseEndMonotone", spec := "fnTestClauseEndMonotone", apart := false, narrowed := true }
def FnTestClauseEndMonotoneUptoSaid : Prop := fnTestClauseEndMonotoneUptoRow.holds Try.pinned (OpenSpec.upto fnTestClauseEndMonotoneSpec)

/-- 'n010_10.FnPosAfterStrictOrder', WHERE WHAT IT READS IS OF BULK AT MOST 1048576: true; the input reads as it did. -/
def fnPosAfterStrictOrderUptoRow : OpenClaim := { program := "ythkkhbdhminjfaa", sum := "e3670846b880fb1863d1ed7683ebc9c70e57bb131b9eb5719fcff76c36a41b58", func := "mvdan.cc/sh/v3/n010_10.FnPosAfterStrictOrder", spec := "fnPosAfterStrictOrder", apart := false, narrowed := true }
def FnPosAfterStrictOrderUptoSaid : Prop := fnPosAfterStrictOrderUptoRow.holds Try.pinned (OpenSpec.upto fnPosAfterStrictOrderSpec)

end Rows
end Go.Proofs.Ythkkhbdhminjfaa
