/-
  No cell of these rows narrows 'for every input' (looked for: loops, veiled, ifaces, maps, wideKeys, modest, calm, conditions, laid).
  DERIVED. THE GIVEN ROWS OF THIS SEAT. 4 by the template 'for every input the law returns true; each argument reads behind the call as it read before'; 0 by the template 'total and deterministic' (their statements: YtdhoamfpeioieaaTotals.lean).
  GIVEN WITH THE SEED: the statements are not yours to turn. If you find one false, say at which input.
  Laid BY PROGRAM, IN A SANDBOX (cutbox-rows.mjs): the forced cells as the released guide's own fill.sh prints them over the translation 94d7a62635a7d412… (all of the seat's roots in one cut). By AI agents, Wed Nov 11 2026. No macro, syntax, notation, axiom, sorry.
-/
import Derived.Test.YtdhoamfpeioieaaChecked
import GoSem.Claim
import GoSem.ClaimJoined
import GoSem.ClaimMapViews
import Derived.JoinedTies
import Derived.KernelRfl
namespace Go.Proofs.Ytdhoamfpeioieaa
/- THE CELL 'sum', in the pinned program and in every row, IS THE sha256 OF THE DUMP (.gsa) THAT YtdhoamfpeioieaaProg.lean LOADS. Nothing in Lean hashes anything: it is a label: what it is worth is what the hold of that sum in a sandbox is worth. -/
noncomputable def Try.pinned : Pinned := { name := "ytdhoamfpeioieaa", sum := "94d7a62635a7d41203d215e78ee5c0b23ddd80a9c592c11410ecbf97560422e0", checked := Try.checked }
namespace Rows
def none {H : Type} : Left H := { results := [], args := [] }

/-- 'n010_153.FnInlineSubshellIdempotent': WHATEVER THE INPUT: true; the input reads as it did. -/
def fnInlineSubshellIdempotentSpec : ChangeSpec := { name := "fnInlineSubshellIdempotent", fn := fun _ => fun
  | [d1, d2, d3, d4] => { results := [.lit (.bool true)], args := [d1, d2, d3, d4] }
  | _ => none }
def fnInlineSubshellIdempotentRow : OpenClaim := { program := "ytdhoamfpeioieaa", sum := "94d7a62635a7d41203d215e78ee5c0b23ddd80a9c592c11410ecbf97560422e0", func := "mvdan.cc/sh/v3/n010_153.FnInlineSubshellIdempotent", spec := "fnInlineSubshellIdempotent", apart := false }
def FnInlineSubshellIdempotentSaid : Prop := fnInlineSubshellIdempotentRow.holds Try.pinned (OpenSpec.ofChange fnInlineSubshellIdempotentSpec)

/-- ITS FALSE NEIGHBOUR: 'it returns false'. Refute it at one input. -/
def fnInlineSubshellIdempotentWrong : ChangeSpec := { name := "fnInlineSubshellIdempotent", fn := fun _ => fun
  | [d1, d2, d3, d4] => { results := [.lit (.bool false)], args := [d1, d2, d3, d4] }
  | _ => none }
def FnInlineSubshellIdempotentWrongFalsely : Prop := fnInlineSubshellIdempotentRow.holds Try.pinned (OpenSpec.ofChange fnInlineSubshellIdempotentWrong)

/-- 'n010_153.FnInlineSimpleParamsIdempotent': WHATEVER THE INPUT: true; the input reads as it did. -/
def fnInlineSimpleParamsIdempotentSpec : ChangeSpec := { name := "fnInlineSimpleParamsIdempotent", fn := fun _ => fun
  | [d1, d2, d3, d4] => { results := [.lit (.bool true)], args := [d1, d2, d3, d4] }
  | _ => none }
def fnInlineSimpleParamsIdempotentRow : OpenClaim := { program := "ytdhoamfpeioieaa", sum := "94d7a62635a7d41203d215e78ee5c0b23ddd80a9c592c11410ecbf97560422e0", func := "mvdan.cc/sh/v3/n010_153.FnInlineSimpleParamsIdempotent", spec := "fnInlineSimpleParamsIdempotent", apart := false }
def FnInlineSimpleParamsIdempotentSaid : Prop := fnInlineSimpleParamsIdempotentRow.holds Try.pinned (OpenSpec.ofChange fnInlineSimpleParamsIdempotentSpec)

/-- ITS FALSE NEIGHBOUR: 'it returns false'. Refute it at one input. -/
def fnInlineSimpleParamsIdempotentWrong : ChangeSpec := { name := "fnInlineSimpleParamsIdempotent", fn := fun _ => fun
  | [d1, d2, d3, d4] => { results := [.lit (.bool false)], args := [d1, d2, d3, d4] }
  | _ => none }
def FnInlineSimpleParamsIdempotentWrongFalsely : Prop := fnInlineSimpleParamsIdempotentRow.holds Try.pinned (OpenSpec.ofChange fnInlineSimpleParamsIdempotentWrong)

/-- 'n010_153.FnUnquoteParamsIdempotent': WHATEVER THE INPUT: true; the input reads as it did. -/
def fnUnquoteParamsIdempotentSpec : ChangeSpec := { name := "fnUnquoteParamsIdempotent", fn := fun _ => fun
  | [d1, d2, d3, d4, d5] => { results := [.lit (.bool true)], args := [d1, d2, d3, d4, d5] }
  | _ => none }
def fnUnquoteParamsIdempotentRow : OpenClaim := { program := "ytdhoamfpeioieaa", sum := "94d7a62635a7d41203d215e78ee5c0b23ddd80a9c592c11410ecbf97560422e0", func := "mvdan.cc/sh/v3/n010_153.FnUnquoteParamsIdempotent", spec := "fnUnquoteParamsIdempotent", apart := false }
def FnUnquoteParamsIdempotentSaid : Prop := fnUnquoteParamsIdempotentRow.holds Try.pinned (OpenSpec.ofChange fnUnquoteParamsIdempotentSpec)

/-- ITS FALSE NEIGHBOUR: 'it returns false'. Refute it at one input. -/
def fnUnquoteParamsIdempotentWrong : ChangeSpec := { name := "fnUnquoteParamsIdempotent", fn := fun _ => fun
  | [d1, d2, d3, d4, d5] => { results := [.lit (.bool false)], args := [d1, d2, d3, d4, d5] }
  | _ => none }
def FnUnquoteParamsIdempotentWrongFalsely : Prop := fnUnquoteParamsIdempotentRow.holds Try.pinned (OpenSpec.ofChange fnUnquoteParamsIdempotentWrong)

/-- 'n010_149.FnRemoveParensTestStripsEveryParen': WHATEVER THE INPUT: true; the input reads as it did. -/
def fnRemoveParensTestStripsEveryParenSpec : ChangeSpec := { name := "fnRemoveParensTestStripsEveryParen", fn := fun _ => fun
  | [d1, d2, d3] => { results := [.lit (.bool true)], args := [d1, d2, d3] }
  | _ => none }
def fnRemoveParensTestStripsEveryParenRow : OpenClaim := { program := "ytdhoamfpeioieaa", sum := "94d7a62635a7d41203d215e78ee5c0b23ddd80a9c592c11410ecbf97560422e0", func := "mvdan.cc/sh/v3/n010_149.FnRemoveParensTestStripsEveryParen", spec := "fnRemoveParensTestStripsEveryParen", apart := false }
def FnRemoveParensTestStripsEveryParenSaid : Prop := fnRemoveParensTestStripsEveryParenRow.holds Try.pinned (OpenSpec.ofChange fnRemoveParensTestStripsEveryParenSpec)

/-- ITS FALSE NEIGHBOUR: 'it returns false'. Refute it at one input. -/
def fnRemoveParensTestStripsEveryParenWrong : ChangeSpec := { name := "fnRemoveParensTestStripsEveryParen", fn := fun _ => fun
  | [d1, d2, d3] => { results := [.lit (.bool false)], args := [d1, d2, d3] }
  | _ => none }
def FnRemoveParensTestStripsEveryParenWrongFalsely : Prop := fnRemoveParensTestStripsEveryParenRow.holds Try.pinned (OpenSpec.ofChange fnRemoveParensTestStripsEveryParenWrong)

/- THE SECOND FORM. 'bulk': how many values and letters a reading holds, each counted each time it is reached (what is shared counts as often as it is met; a slice's spare places count too). A statement '..UptoSaid' is the law's where the arguments, and the package variables that the reading takes, are together of bulk at most 1048576: NARROWER than '..Said'. Prove '..Said' where nothing that the law and all that it calls make is longer than what came in: it says more and counts as full. Else prove '..UptoSaid'. A law counts once. -/
mutual
def uptoBulk {H : Type} : DataW H → Nat
  | .lit (.string bytes) => bytes.length + 1
  | .lit _ => 1
  | .nil => 1
  | .ptr d => uptoBulk d + 1
  | .slice elems spare => uptoBulkAll elems + uptoBulkAll spare + 1
  | .agg parts => uptoBulkAll parts + 1
  | .iface _ d => uptoBulk d + 1
  | .map entries => uptoBulkEntries entries + 1
  | .held _ => 1
def uptoBulkAll {H : Type} : List (DataW H) → Nat
  | [] => 0
  | d :: r => uptoBulk d + uptoBulkAll r
def uptoBulkEntries {H : Type} : List (Lit × DataW H) → Nat
  | [] => 0
  | x :: r => uptoBulkEntry x + uptoBulkEntries r
def uptoBulkEntry {H : Type} : Lit × DataW H → Nat
  | (.string bytes, d) => bytes.length + uptoBulk d + 1
  | (_, d) => uptoBulk d + 1
 end
def uptoSmall : (H : Type) → List (DataW H) → Bool := fun _ ds => decide (uptoBulkAll ds ≤ 1048576)
def OpenSpec.upto (s : _root_.Go.ChangeSpec) : _root_.Go.OpenSpec := { _root_.Go.OpenSpec.ofChange s with cond := some uptoSmall }

/-- 'n010_153.FnInlineSubshellIdempotent', WHERE WHAT IT READS IS OF BULK AT MOST 1048576: true; the input reads as it did. -/
def fnInlineSubshellIdempotentUptoRow : OpenClaim := { program := "ytdhoamfpeioieaa", sum := "94d7a62635a7d41203d215e78ee5c0b23ddd80a9c592c11410ecbf97560422e0", func := "mvdan.cc/sh/v3/n010_153.FnInlineSubshellIdempotent", spec := "fnInlineSubshellIdempotent", apart := false, narrowed := true }
def FnInlineSubshellIdempotentUptoSaid : Prop := fnInlineSubshellIdempotentUptoRow.holds Try.pinned (OpenSpec.upto fnInlineSubshellIdempotentSpec)

/-- 'n010_153.FnInlineSimpleParamsIdempotent', WHERE WHAT IT READS IS OF BULK AT MOST 1048576: true; the input reads as it did. -/
def fnInlineSimpleParamsIdempotentUptoRow : OpenClaim := { program := "ytdhoamfpeioieaa", sum := "94d7a62635a7d41203d215e78ee5c0b23ddd80a9c592c11410ecbf97560422e0", func := "mvdan.cc/sh/v3/n010_153.FnInlineSimpleParamsIdempotent", spec := "fnInlineSimpleParamsIdempotent", apart := false, narrowed := true }
def FnInlineSimpleParamsIdempotentUptoSaid : Prop := fnInlineSimpleParamsIdempotentUptoRow.holds Try.pinned (OpenSpec.upto fnInlineSimpleParamsIdempotentSpec)

/-- 'n010_153.FnUnquoteParamsIdempotent', WHERE WHAT IT READS IS OF BULK AT MOST 1048576: true; the input reads as it did. -/
def fnUnquoteParamsIdempotentUptoRow : OpenClaim := { program := "ytdhoamfpeioieaa", sum := "94d7a62635a7d41203d215e78ee5c0b23ddd80a9c592c11410ecbf97560422e0", func := "mvdan.cc/sh/v3/n010_153.FnUnquoteParamsIdempotent", spec := "fnUnquoteParamsIdempotent", apart := false, narrowed := true }
def FnUnquoteParamsIdempotentUptoSaid : Prop := fnUnquoteParamsIdempotentUptoRow.holds Try.pinned (OpenSpec.upto fnUnquoteParamsIdempotentSpec)

/-- 'n010_149.FnRemoveParensTestStripsEveryParen', WHERE WHAT IT READS IS OF BULK AT MOST 1048576: true; the input reads as it did. -/
def fnRemoveParensTestStripsEveryParenUptoRow : OpenClaim := { program := "ytdhoamfpeioieaa", sum := "94d7a62635a7d41203d215e78ee5c0b23ddd80a9c592c11410ecbf97560422e0", func := "mvdan.cc/sh/v3/n010_149.FnRemoveParensTestStripsEveryParen", spec := "fnRemoveParensTestStripsEveryParen", apart := false, narrowed := true }
def FnRemoveParensTestStripsEveryParenUptoSaid : Prop := fnRemoveParensTestStripsEveryParenUptoRow.holds Try.pinned (OpenSpec.upto fnRemoveParensTestStripsEveryParenSpec)

end Rows
end Go.Proofs.Ytdhoamfpeioieaa
