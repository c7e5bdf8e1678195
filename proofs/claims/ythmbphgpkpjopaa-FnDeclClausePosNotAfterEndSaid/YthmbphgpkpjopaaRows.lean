/-
  No cell of these rows narrows 'for every input' (looked for: loops, veiled, ifaces, maps, wideKeys, modest, calm, conditions, laid).
  DERIVED. THE GIVEN ROWS OF THIS SEAT. 3 by the template 'for every input the law returns true; each argument reads behind the call as it read before'; 0 by the template 'total and deterministic' (their statements: YthmbphgpkpjopaaTotals.lean).
  GIVEN WITH THE SEED: the statements are not yours to turn. If you find one false, say at which input.
  Laid BY PROGRAM, IN A SANDBOX (cutbox-rows.mjs): the forced cells as the released guide's own fill.sh prints them over the translation e9560009f4af6aee… (all of the seat's roots in one cut). By AI agents, Wed Nov 11 2026. No macro, syntax, notation, axiom, sorry.
-/
import Derived.Test.YthmbphgpkpjopaaChecked
import GoSem.Claim
import GoSem.ClaimJoined
import GoSem.ClaimMapViews
import Derived.JoinedTies
import Derived.KernelRfl
namespace Go.Proofs.Ythmbphgpkpjopaa
/- THE CELL 'sum', in the pinned program and in every row, IS THE sha256 OF THE DUMP (.gsa) THAT YthmbphgpkpjopaaProg.lean LOADS. Nothing in Lean hashes anything: it is a label: what it is worth is what the hold of that sum in a sandbox is worth. -/
noncomputable def Try.pinned : Pinned := { name := "ythmbphgpkpjopaa", sum := "e9560009f4af6aee751c77e66ae7b1a97d3b5c8b540e8a45130bf8bb0609d75d", checked := Try.checked }
namespace Rows
def none {H : Type} : Left H := { results := [], args := [] }

/-- 'n010_16.FnExtGlobEndStepBound': WHATEVER THE INPUT: true; the input reads as it did. -/
def fnExtGlobEndStepBoundSpec : ChangeSpec := { name := "fnExtGlobEndStepBound", fn := fun _ => fun
  | [d1, d2] => { results := [.lit (.bool true)], args := [d1, d2] }
  | _ => none }
def fnExtGlobEndStepBoundRow : OpenClaim := { program := "ythmbphgpkpjopaa", sum := "e9560009f4af6aee751c77e66ae7b1a97d3b5c8b540e8a45130bf8bb0609d75d", func := "mvdan.cc/sh/v3/n010_16.FnExtGlobEndStepBound", spec := "fnExtGlobEndStepBound", apart := false }
def FnExtGlobEndStepBoundSaid : Prop := fnExtGlobEndStepBoundRow.holds Try.pinned (OpenSpec.ofChange fnExtGlobEndStepBoundSpec)

/-- ITS FALSE NEIGHBOUR: 'it returns false'. Refute it at one input. -/
def fnExtGlobEndStepBoundWrong : ChangeSpec := { name := "fnExtGlobEndStepBound", fn := fun _ => fun
  | [d1, d2] => { results := [.lit (.bool false)], args := [d1, d2] }
  | _ => none }
def FnExtGlobEndStepBoundWrongFalsely : Prop := fnExtGlobEndStepBoundRow.holds Try.pinned (OpenSpec.ofChange fnExtGlobEndStepBoundWrong)

/-- 'n010_161.FnDeclClausePosNotAfterEnd': WHATEVER THE INPUT: true; the input reads as it did. -/
def fnDeclClausePosNotAfterEndSpec : ChangeSpec := { name := "fnDeclClausePosNotAfterEnd", fn := fun _ => fun
  | [d1, d2, d3, d4, d5, d6, d7, d8, d9, d10, d11] => { results := [.lit (.bool true)], args := [d1, d2, d3, d4, d5, d6, d7, d8, d9, d10, d11] }
  | _ => none }
def fnDeclClausePosNotAfterEndRow : OpenClaim := { program := "ythmbphgpkpjopaa", sum := "e9560009f4af6aee751c77e66ae7b1a97d3b5c8b540e8a45130bf8bb0609d75d", func := "mvdan.cc/sh/v3/n010_161.FnDeclClausePosNotAfterEnd", spec := "fnDeclClausePosNotAfterEnd", unfollowed := true, recurses := true, apart := false }
def FnDeclClausePosNotAfterEndSaid : Prop := fnDeclClausePosNotAfterEndRow.holds Try.pinned (OpenSpec.ofChange fnDeclClausePosNotAfterEndSpec)

/-- ITS FALSE NEIGHBOUR: 'it returns false'. Refute it at one input. -/
def fnDeclClausePosNotAfterEndWrong : ChangeSpec := { name := "fnDeclClausePosNotAfterEnd", fn := fun _ => fun
  | [d1, d2, d3, d4, d5, d6, d7, d8, d9, d10, d11] => { results := [.lit (.bool false)], args := [d1, d2, d3, d4, d5, d6, d7, d8, d9, d10, d11] }
  | _ => none }
def FnDeclClausePosNotAfterEndWrongFalsely : Prop := fnDeclClausePosNotAfterEndRow.holds Try.pinned (OpenSpec.ofChange fnDeclClausePosNotAfterEndWrong)

/-- 'n010_151.FnWantsNewlineMonotone': WHATEVER THE INPUT: true; the input reads as it did. -/
def fnWantsNewlineMonotoneSpec : ChangeSpec := { name := "fnWantsNewlineMonotone", fn := fun _ => fun
  | [d1, d2, d3, d4, d5, d6, d7, d8, d9] => { results := [.lit (.bool true)], args := [d1, d2, d3, d4, d5, d6, d7, d8, d9] }
  | _ => none }
def fnWantsNewlineMonotoneRow : OpenClaim := { program := "ythmbphgpkpjopaa", sum := "e9560009f4af6aee751c77e66ae7b1a97d3b5c8b540e8a45130bf8bb0609d75d", func := "mvdan.cc/sh/v3/n010_151.FnWantsNewlineMonotone", spec := "fnWantsNewlineMonotone", unfollowed := true, recurses := true, apart := false }
def FnWantsNewlineMonotoneSaid : Prop := fnWantsNewlineMonotoneRow.holds Try.pinned (OpenSpec.ofChange fnWantsNewlineMonotoneSpec)

/-- ITS FALSE NEIGHBOUR: 'it returns false'. Refute it at one input. -/
def fnWantsNewlineMonotoneWrong : ChangeSpec := { name := "fnWantsNewlineMonotone", fn := fun _ => fun
  | [d1, d2, d3, d4, d5, d6, d7, d8, d9] => { results := [.lit (.bool false)], args := [d1, d2, d3, d4, d5, d6, d7, d8, d9] }
  | _ => none }
def FnWantsNewlineMonotoneWrongFalsely : Prop := fnWantsNewlineMonotoneRow.holds Try.pinned (OpenSpec.ofChange fnWantsNewlineMonotoneWrong)

/- THE SECOND FORM. 'bulk': how many values and letters a reading holds, each counted each time it is reached (what is shared counts as often as it is met; a slice's spare places count too). A statement '..UptoSaid' is the law's where the arguments, and the package variables that the reading takes, are together of bulk at most 1048576: NARROWER than '..Said'. Prove '..Said' where nothing that the law and all that it calls make is longer than what came in: it says more and counts as full. Else prove '..UptoSaid'. A law counts once. -/
mutual
def uptoBulk {H : Type} : DataW H → Nat
  | .lit (.string bytes) => bytes.length + 1
  | .lit _ => 1
  | .nil => 1
  | .ptr d => uptoBulk d + 1
  | .slice elems spare => uptoBulkAll elems + uptoBulkAll spare + 1
  | .agg parts => uptoBulkAll parts + 1
  | .iface _ d => uptoBulk d + 1
  | .map entries => uptoBulkEntries entries + 1
  | .held _ => 1
def uptoBulkAll {H : Type} : List (DataW H) → Nat
  | [] => 0
  | d :: r => uptoBulk d + uptoBulkAll r
def uptoBulkEntries {H : Type} : List (Lit × DataW H) → Nat
  | [] => 0
  | x :: r => uptoBulkEntry x + uptoBulkEntries r
def uptoBulkEntry {H : Type} : Lit × DataW H → Nat
  | (.string bytes, d) => bytes.length + uptoBulk d + 1
  | (_, d) => uptoBulk d + 1
 end
def uptoSmall : (H : Type) → List (DataW H) → Bool := fun _ ds => decide (uptoBulkAll ds ≤ 1048576)
def OpenSpec.upto (s : _root_.Go.ChangeSpec) : _root_.Go.OpenSpec := { _root_.Go.OpenSpec.ofChange s with cond := some uptoSmall }

/-- 'n010_16.FnExtGlobEndStepBound', WHERE WHAT IT READS IS OF BULK AT MOST 1048576: true; the input reads as it did. -/
def fnExtGlobEndStepBoundUptoRow : OpenClaim := { program := "ythmbphgpkpjopaa", sum := "e9560009f4af6aee751c77e66ae7b1a97d3b5c8b540e8a45130bf8bb0609d75d", func := "mvdan.cc/sh/v3/n010_16.FnExtGlobEndStepBound", spec := "fnExtGlobEndStepBound", apart := false, narrowed := true }
def FnExtGlobEndStepBoundUptoSaid : Prop := fnExtGlobEndStepBoundUptoRow.holds Try.pinned (OpenSpec.upto fnExtGlobEndStepBoundSpec)

/-- 'n010_161.FnDeclClausePosNotAfterEnd', WHERE WHAT IT READS IS OF BULK AT MOST 1048576: true; the input reads as it did. -/
def fnDeclClausePosNotAfterEndUptoRow : OpenClaim := { program := "ythmbphgpkpjopaa", sum := "e9560009f4af6aee751c77e66ae7b1a97d3b5c8b540e8a45130bf8bb0609d75d", func := "mvdan.cc/sh/v3/n010_161.FnDeclClausePosNotAfterEnd", spec := "fnDeclClausePosNotAfterEnd", unfollowed := true, recurses := true, apart := false, narrowed := true }
def FnDeclClausePosNotAfterEndUptoSaid : Prop := fnDeclClausePosNotAfterEndUptoRow.holds Try.pinned (OpenSpec.upto fnDeclClausePosNotAfterEndSpec)

/-- 'n010_151.FnWantsNewlineMonotone', WHERE WHAT IT READS IS OF BULK AT MOST 1048576: true; the input reads as it did. -/
def fnWantsNewlineMonotoneUptoRow : OpenClaim := { program := "ythmbphgpkpjopaa", sum := "e9560009f4af6aee751c77e66ae7b1a97d3b5c8b540e8a45130bf8bb0609d75d", func := "mvdan.cc/sh/v3/n010_151.FnWantsNewlineMonotone", spec := "fnWantsNewlineMonotone", unfollowed := true, recurses := true, apart := false, narrowed := true }
def FnWantsNewlineMonotoneUptoSaid : Prop := fnWantsNewlineMonotoneUptoRow.holds Try.pinned (OpenSpec.upto fnWantsNewlineMonotoneSpec)

end Rows
end Go.Proofs.Ythmbphgpkpjopaa
