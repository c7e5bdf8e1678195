/-
  No cell of these rows narrows 'for every input' (looked for: loops, veiled, ifaces, maps, wideKeys, modest, calm, conditions, laid).
  DERIVED. THE GIVEN ROWS OF THIS SEAT. 9 by the template 'for every input the law returns true; each argument reads behind the call as it read before'; 0 by the template 'total and deterministic' (their statements: YtimfajlnlfaffaaTotals.lean).
  GIVEN WITH THE SEED: the statements are not yours to turn. If you find one false, say at which input.
  Laid BY PROGRAM, IN A SANDBOX (cutbox-rows.mjs): the forced cells as the released guide's own fill.sh prints them over the translation c888443736accd73… (all of the seat's roots in one cut). By AI agents, Wed Nov 11 2026. No macro, syntax, notation, axiom, sorry.
-/
import Derived.Test.YtimfajlnlfaffaaChecked
import GoSem.Claim
import GoSem.ClaimJoined
import GoSem.ClaimMapViews
import Derived.JoinedTies
import Derived.KernelRfl
namespace Go.Proofs.Ytimfajlnlfaffaa
/- THE CELL 'sum', in the pinned program and in every row, IS THE sha256 OF THE DUMP (.gsa) THAT YtimfajlnlfaffaaProg.lean LOADS. Nothing in Lean hashes anything: it is a label: what it is worth is what the hold of that sum in a sandbox is worth. -/
noncomputable def Try.pinned : Pinned := { name := "ytimfajlnlfaffaa", sum := "c888443736accd73d1a41c52461c4d05e8a944a8ce1140c5cfc6592735e5a4b1", checked := Try.checked }
namespace Rows
def none {H : Type} : Left H := { results := [], args := [] }

/-- 'n010_19.FnBinaryArithmEndIsRightmostEnd': WHATEVER THE INPUT: true; the input reads as it did. -/
def fnBinaryArithmEndIsRightmostEndSpec : ChangeSpec := { name := "fnBinaryArithmEndIsRightmostEnd", fn := fun _ => fun
  | [d1, d2, d3, d4, d5, d6] => { results := [.lit (.bool true)], args := [d1, d2, d3, d4, d5, d6] }
  | _ => none }
def fnBinaryArithmEndIsRightmostEndRow : OpenClaim := { program := "ytimfajlnlfaffaa", sum := "c888443736accd73d1a41c52461c4d05e8a944a8ce1140c5cfc6592735e5a4b1", func := "mvdan.cc/sh/v3/n010_19.FnBinaryArithmEndIsRightmostEnd", spec := "fnBinaryArithmEndIsRightmostEnd", unfollowed := true, recurses := true, apart := false }
def FnBinaryArithmEndIsRightmostEndSaid : Prop := fnBinaryArithmEndIsRightmostEndRow.holds Try.pinned (OpenSpec.ofChange fnBinaryArithmEndIsRightmostEndSpec)

/-- ITS FALSE NEIGHBOUR: 'it returns false'. Refute it at one input. -/
def fnBinaryArithmEndIsRightmostEndWrong : ChangeSpec := { name := "fnBinaryArithmEndIsRightmostEnd", fn := fun _ => fun
  | [d1, d2, d3, d4, d5, d6] => { results := [.lit (.bool false)], args := [d1, d2, d3, d4, d5, d6] }
  | _ => none }
def FnBinaryArithmEndIsRightmostEndWrongFalsely : Prop := fnBinaryArithmEndIsRightmostEndRow.holds Try.pinned (OpenSpec.ofChange fnBinaryArithmEndIsRightmostEndWrong)

/-- 'n010_19.FnBinaryArithmPosIsLeftmostStart': WHATEVER THE INPUT: true; the input reads as it did. -/
def fnBinaryArithmPosIsLeftmostStartSpec : ChangeSpec := { name := "fnBinaryArithmPosIsLeftmostStart", fn := fun _ => fun
  | [d1, d2, d3, d4, d5, d6] => { results := [.lit (.bool true)], args := [d1, d2, d3, d4, d5, d6] }
  | _ => none }
def fnBinaryArithmPosIsLeftmostStartRow : OpenClaim := { program := "ytimfajlnlfaffaa", sum := "c888443736accd73d1a41c52461c4d05e8a944a8ce1140c5cfc6592735e5a4b1", func := "mvdan.cc/sh/v3/n010_19.FnBinaryArithmPosIsLeftmostStart", spec := "fnBinaryArithmPosIsLeftmostStart", unfollowed := true, recurses := true, apart := false }
def FnBinaryArithmPosIsLeftmostStartSaid : Prop := fnBinaryArithmPosIsLeftmostStartRow.holds Try.pinned (OpenSpec.ofChange fnBinaryArithmPosIsLeftmostStartSpec)

/-- ITS FALSE NEIGHBOUR: 'it returns false'. Refute it at one input. -/
def fnBinaryArithmPosIsLeftmostStartWrong : ChangeSpec := { name := "fnBinaryArithmPosIsLeftmostStart", fn := fun _ => fun
  | [d1, d2, d3, d4, d5, d6] => { results := [.lit (.bool false)], args := [d1, d2, d3, d4, d5, d6] }
  | _ => none }
def FnBinaryArithmPosIsLeftmostStartWrongFalsely : Prop := fnBinaryArithmPosIsLeftmostStartRow.holds Try.pinned (OpenSpec.ofChange fnBinaryArithmPosIsLeftmostStartWrong)

/-- 'n010_17.FnBinaryTestPosIsLeftmostLeaf': WHATEVER THE INPUT: true; the input reads as it did. -/
def fnBinaryTestPosIsLeftmostLeafSpec : ChangeSpec := { name := "fnBinaryTestPosIsLeftmostLeaf", fn := fun _ => fun
  | [d1, d2, d3, d4, d5, d6, d7] => { results := [.lit (.bool true)], args := [d1, d2, d3, d4, d5, d6, d7] }
  | _ => none }
def fnBinaryTestPosIsLeftmostLeafRow : OpenClaim := { program := "ytimfajlnlfaffaa", sum := "c888443736accd73d1a41c52461c4d05e8a944a8ce1140c5cfc6592735e5a4b1", func := "mvdan.cc/sh/v3/n010_17.FnBinaryTestPosIsLeftmostLeaf", spec := "fnBinaryTestPosIsLeftmostLeaf", unfollowed := true, recurses := true, apart := false }
def FnBinaryTestPosIsLeftmostLeafSaid : Prop := fnBinaryTestPosIsLeftmostLeafRow.holds Try.pinned (OpenSpec.ofChange fnBinaryTestPosIsLeftmostLeafSpec)

/-- ITS FALSE NEIGHBOUR: 'it returns false'. Refute it at one input. -/
def fnBinaryTestPosIsLeftmostLeafWrong : ChangeSpec := { name := "fnBinaryTestPosIsLeftmostLeaf", fn := fun _ => fun
  | [d1, d2, d3, d4, d5, d6, d7] => { results := [.lit (.bool false)], args := [d1, d2, d3, d4, d5, d6, d7] }
  | _ => none }
def FnBinaryTestPosIsLeftmostLeafWrongFalsely : Prop := fnBinaryTestPosIsLeftmostLeafRow.holds Try.pinned (OpenSpec.ofChange fnBinaryTestPosIsLeftmostLeafWrong)

/-- 'n010_132.FnAssignNakedDeclArgSpansItsWord': WHATEVER THE INPUT: true; the input reads as it did. -/
def fnAssignNakedDeclArgSpansItsWordSpec : ChangeSpec := { name := "fnAssignNakedDeclArgSpansItsWord", fn := fun _ => fun
  | [d1, d2, d3, d4] => { results := [.lit (.bool true)], args := [d1, d2, d3, d4] }
  | _ => none }
def fnAssignNakedDeclArgSpansItsWordRow : OpenClaim := { program := "ytimfajlnlfaffaa", sum := "c888443736accd73d1a41c52461c4d05e8a944a8ce1140c5cfc6592735e5a4b1", func := "mvdan.cc/sh/v3/n010_132.FnAssignNakedDeclArgSpansItsWord", spec := "fnAssignNakedDeclArgSpansItsWord", unfollowed := true, recurses := true, apart := false }
def FnAssignNakedDeclArgSpansItsWordSaid : Prop := fnAssignNakedDeclArgSpansItsWordRow.holds Try.pinned (OpenSpec.ofChange fnAssignNakedDeclArgSpansItsWordSpec)

/-- ITS FALSE NEIGHBOUR: 'it returns false'. Refute it at one input. -/
def fnAssignNakedDeclArgSpansItsWordWrong : ChangeSpec := { name := "fnAssignNakedDeclArgSpansItsWord", fn := fun _ => fun
  | [d1, d2, d3, d4] => { results := [.lit (.bool false)], args := [d1, d2, d3, d4] }
  | _ => none }
def FnAssignNakedDeclArgSpansItsWordWrongFalsely : Prop := fnAssignNakedDeclArgSpansItsWordRow.holds Try.pinned (OpenSpec.ofChange fnAssignNakedDeclArgSpansItsWordWrong)

/-- 'n010_12.FnWordSpanIsSourceText': WHATEVER THE INPUT: true; the input reads as it did. -/
def fnWordSpanIsSourceTextSpec : ChangeSpec := { name := "fnWordSpanIsSourceText", fn := fun _ => fun
  | [d1, d2, d3] => { results := [.lit (.bool true)], args := [d1, d2, d3] }
  | _ => none }
def fnWordSpanIsSourceTextRow : OpenClaim := { program := "ytimfajlnlfaffaa", sum := "c888443736accd73d1a41c52461c4d05e8a944a8ce1140c5cfc6592735e5a4b1", func := "mvdan.cc/sh/v3/n010_12.FnWordSpanIsSourceText", spec := "fnWordSpanIsSourceText", unfollowed := true, recurses := true, apart := false }
def FnWordSpanIsSourceTextSaid : Prop := fnWordSpanIsSourceTextRow.holds Try.pinned (OpenSpec.ofChange fnWordSpanIsSourceTextSpec)

/-- ITS FALSE NEIGHBOUR: 'it returns false'. Refute it at one input. -/
def fnWordSpanIsSourceTextWrong : ChangeSpec := { name := "fnWordSpanIsSourceText", fn := fun _ => fun
  | [d1, d2, d3] => { results := [.lit (.bool false)], args := [d1, d2, d3] }
  | _ => none }
def FnWordSpanIsSourceTextWrongFalsely : Prop := fnWordSpanIsSourceTextRow.holds Try.pinned (OpenSpec.ofChange fnWordSpanIsSourceTextWrong)

/-- 'n010_12.FnWordLitTable': WHATEVER THE INPUT: true; the input reads as it did. -/
def fnWordLitTableSpec : ChangeSpec := { name := "fnWordLitTable", fn := fun _ => fun
  | [d1, d2] => { results := [.lit (.bool true)], args := [d1, d2] }
  | _ => none }
def fnWordLitTableRow : OpenClaim := { program := "ytimfajlnlfaffaa", sum := "c888443736accd73d1a41c52461c4d05e8a944a8ce1140c5cfc6592735e5a4b1", func := "mvdan.cc/sh/v3/n010_12.FnWordLitTable", spec := "fnWordLitTable", inPlace := ["internal/abi.NoEscape", "internal/bytealg.MakeNoZero"], apart := false }
def FnWordLitTableSaid : Prop := fnWordLitTableRow.holds Try.pinned (OpenSpec.ofChange fnWordLitTableSpec)

/-- ITS FALSE NEIGHBOUR: 'it returns false'. Refute it at one input. -/
def fnWordLitTableWrong : ChangeSpec := { name := "fnWordLitTable", fn := fun _ => fun
  | [d1, d2] => { results := [.lit (.bool false)], args := [d1, d2] }
  | _ => none }
def FnWordLitTableWrongFalsely : Prop := fnWordLitTableRow.holds Try.pinned (OpenSpec.ofChange fnWordLitTableWrong)

/-- 'n010_146.FnWordLastEndConcat': WHATEVER THE INPUT: true; the input reads as it did. -/
def fnWordLastEndConcatSpec : ChangeSpec := { name := "fnWordLastEndConcat", fn := fun _ => fun
  | [d1, d2, d3, d4] => { results := [.lit (.bool true)], args := [d1, d2, d3, d4] }
  | _ => none }
def fnWordLastEndConcatRow : OpenClaim := { program := "ytimfajlnlfaffaa", sum := "c888443736accd73d1a41c52461c4d05e8a944a8ce1140c5cfc6592735e5a4b1", func := "mvdan.cc/sh/v3/n010_146.FnWordLastEndConcat", spec := "fnWordLastEndConcat", unfollowed := true, recurses := true, apart := false }
def FnWordLastEndConcatSaid : Prop := fnWordLastEndConcatRow.holds Try.pinned (OpenSpec.ofChange fnWordLastEndConcatSpec)

/-- ITS FALSE NEIGHBOUR: 'it returns false'. Refute it at one input. -/
def fnWordLastEndConcatWrong : ChangeSpec := { name := "fnWordLastEndConcat", fn := fun _ => fun
  | [d1, d2, d3, d4] => { results := [.lit (.bool false)], args := [d1, d2, d3, d4] }
  | _ => none }
def FnWordLastEndConcatWrongFalsely : Prop := fnWordLastEndConcatRow.holds Try.pinned (OpenSpec.ofChange fnWordLastEndConcatWrong)

/-- 'n010_147.FnCallExprSpanLayout': WHATEVER THE INPUT: true; the input reads as it did. -/
def fnCallExprSpanLayoutSpec : ChangeSpec := { name := "fnCallExprSpanLayout", fn := fun _ => fun
  | [d1, d2, d3, d4, d5] => { results := [.lit (.bool true)], args := [d1, d2, d3, d4, d5] }
  | _ => none }
def fnCallExprSpanLayoutRow : OpenClaim := { program := "ytimfajlnlfaffaa", sum := "c888443736accd73d1a41c52461c4d05e8a944a8ce1140c5cfc6592735e5a4b1", func := "mvdan.cc/sh/v3/n010_147.FnCallExprSpanLayout", spec := "fnCallExprSpanLayout", unfollowed := true, recurses := true, apart := false }
def FnCallExprSpanLayoutSaid : Prop := fnCallExprSpanLayoutRow.holds Try.pinned (OpenSpec.ofChange fnCallExprSpanLayoutSpec)

/-- ITS FALSE NEIGHBOUR: 'it returns false'. Refute it at one input. -/
def fnCallExprSpanLayoutWrong : ChangeSpec := { name := "fnCallExprSpanLayout", fn := fun _ => fun
  | [d1, d2, d3, d4, d5] => { results := [.lit (.bool false)], args := [d1, d2, d3, d4, d5] }
  | _ => none }
def FnCallExprSpanLayoutWrongFalsely : Prop := fnCallExprSpanLayoutRow.holds Try.pinned (OpenSpec.ofChange fnCallExprSpanLayoutWrong)

/-- 'n010_107.FnBraceExpSpanOnOneLine': WHATEVER THE INPUT: true; the input reads as it did. -/
def fnBraceExpSpanOnOneLineSpec : ChangeSpec := { name := "fnBraceExpSpanOnOneLine", fn := fun _ => fun
  | [d1, d2, d3, d4, d5] => { results := [.lit (.bool true)], args := [d1, d2, d3, d4, d5] }
  | _ => none }
def fnBraceExpSpanOnOneLineRow : OpenClaim := { program := "ytimfajlnlfaffaa", sum := "c888443736accd73d1a41c52461c4d05e8a944a8ce1140c5cfc6592735e5a4b1", func := "mvdan.cc/sh/v3/n010_107.FnBraceExpSpanOnOneLine", spec := "fnBraceExpSpanOnOneLine", unfollowed := true, recurses := true, apart := false }
def FnBraceExpSpanOnOneLineSaid : Prop := fnBraceExpSpanOnOneLineRow.holds Try.pinned (OpenSpec.ofChange fnBraceExpSpanOnOneLineSpec)

/-- ITS FALSE NEIGHBOUR: 'it returns false'. Refute it at one input. -/
def fnBraceExpSpanOnOneLineWrong : ChangeSpec := { name := "fnBraceExpSpanOnOneLine", fn := fun _ => fun
  | [d1, d2, d3, d4, d5] => { results := [.lit (.bool false)], args := [d1, d2, d3, d4, d5] }
  | _ => none }
def FnBraceExpSpanOnOneLineWrongFalsely : Prop := fnBraceExpSpanOnOneLineRow.holds Try.pinned (OpenSpec.ofChange fnBraceExpSpanOnOneLineWrong)

/- THE SECOND FORM. 'bulk': how many values and letters a reading holds, each counted each time it is reached (what is shared counts as often as it is met; a slice's spare places count too). A statement '..UptoSaid' is the law's where the arguments, and the package variables that the reading takes, are together of bulk at most 1048576: NARROWER than '..Said'. Prove '..Said' where nothing that the law and all that it calls make is longer than what came in: it says more and counts as full. Else prove '..UptoSaid'. A law counts once. -/
mutual
def uptoBulk {H : Type} : DataW H → Nat
  | .lit (.string bytes) => bytes.length + 1
  | .lit _ => 1
  | .nil => 1
  | .ptr d => uptoBulk d + 1
  | .slice elems spare => uptoBulkAll elems + uptoBulkAll spare + 1
  | .agg parts => uptoBulkAll parts + 1
  | .iface _ d => uptoBulk d + 1
  | .map entries => uptoBulkEntries entries + 1
  | .held _ => 1
def uptoBulkAll {H : Type} : List (DataW H) → Nat
  | [] => 0
  | d :: r => uptoBulk d + uptoBulkAll r
def uptoBulkEntries {H : Type} : List (Lit × DataW H) → Nat
  | [] => 0
  | x :: r => uptoBulkEntry x + uptoBulkEntries r
def uptoBulkEntry {H : Type} : Lit × DataW H → Nat
  | (.string bytes, d) => bytes.length + uptoBulk d + 1
  | (_, d) => uptoBulk d + 1
 end
def uptoSmall : (H : Type) → List (DataW H) → Bool := fun _ ds => decide (uptoBulkAll ds ≤ 1048576)
def OpenSpec.upto (s : _root_.Go.ChangeSpec) : _root_.Go.OpenSpec := { _root_.Go.OpenSpec.ofChange s with cond := some uptoSmall }

/-- 'n010_19.FnBinaryArithmEndIsRightmostEnd', WHERE WHAT IT READS IS OF BULK AT MOST 1048576: true; the input reads as it did. -/
def fnBinaryArithmEndIsRightmostEndUptoRow : OpenClaim := { program := "ytimfajlnlfaffaa", sum := "c888443736accd73d1a41c52461c4d05e8a944a8ce1140c5cfc6592735e5a4b1", func := "mvdan.cc/sh/v3/n010_19.FnBinaryArithmEndIsRightmostEnd", spec := "fnBinaryArithmEndIsRightmostEnd", unfollowed := true, recurses := true, apart := false, narrowed := true }
def FnBinaryArithmEndIsRightmostEndUptoSaid : Prop := fnBinaryArithmEndIsRightmostEndUptoRow.holds Try.pinned (OpenSpec.upto fnBinaryArithmEndIsRightmostEndSpec)

/-- 'n010_19.FnBinaryArithmPosIsLeftmostStart', WHERE WHAT IT READS IS OF BULK AT MOST 1048576: true; the input reads as it did. -/
def fnBinaryArithmPosIsLeftmostStartUptoRow : OpenClaim := { program := "ytimfajlnlfaffaa", sum := "c888443736accd73d1a41c52461c4d05e8a944a8ce1140c5cfc6592735e5a4b1", func := "mvdan.cc/sh/v3/n010_19.FnBinaryArithmPosIsLeftmostStart", spec := "fnBinaryArithmPosIsLeftmostStart", unfollowed := true, recurses := true, apart := false, narrowed := true }
def FnBinaryArithmPosIsLeftmostStartUptoSaid : Prop := fnBinaryArithmPosIsLeftmostStartUptoRow.holds Try.pinned (OpenSpec.upto fnBinaryArithmPosIsLeftmostStartSpec)

/-- 'n010_17.FnBinaryTestPosIsLeftmostLeaf', WHERE WHAT IT READS IS OF BULK AT MOST 1048576: true; the input reads as it did. -/
def fnBinaryTestPosIsLeftmostLeafUptoRow : OpenClaim := { program := "ytimfajlnlfaffaa", sum := "c888443736accd73d1a41c52461c4d05e8a944a8ce1140c5cfc6592735e5a4b1", func := "mvdan.cc/sh/v3/n010_17.FnBinaryTestPosIsLeftmostLeaf", spec := "fnBinaryTestPosIsLeftmostLeaf", unfollowed := true, recurses := true, apart := false, narrowed := true }
def FnBinaryTestPosIsLeftmostLeafUptoSaid : Prop := fnBinaryTestPosIsLeftmostLeafUptoRow.holds Try.pinned (OpenSpec.upto fnBinaryTestPosIsLeftmostLeafSpec)

/-- 'n010_132.FnAssignNakedDeclArgSpansItsWord', WHERE WHAT IT READS IS OF BULK AT MOST 1048576: true; the input reads as it did. -/
def fnAssignNakedDeclArgSpansItsWordUptoRow : OpenClaim := { program := "ytimfajlnlfaffaa", sum := "c888443736accd73d1a41c52461c4d05e8a944a8ce1140c5cfc6592735e5a4b1", func := "mvdan.cc/sh/v3/n010_132.FnAssignNakedDeclArgSpansItsWord", spec := "fnAssignNakedDeclArgSpansItsWord", unfollowed := true, recurses := true, apart := false, narrowed := true }
def FnAssignNakedDeclArgSpansItsWordUptoSaid : Prop := fnAssignNakedDeclArgSpansItsWordUptoRow.holds Try.pinned (OpenSpec.upto fnAssignNakedDeclArgSpansItsWordSpec)

/-- 'n010_12.FnWordSpanIsSourceText', WHERE WHAT IT READS IS OF BULK AT MOST 1048576: true; the input reads as it did. -/
def fnWordSpanIsSourceTextUptoRow : OpenClaim := { program := "ytimfajlnlfaffaa", sum := "c888443736accd73d1a41c52461c4d05e8a944a8ce1140c5cfc6592735e5a4b1", func := "mvdan.cc/sh/v3/n010_12.FnWordSpanIsSourceText", spec := "fnWordSpanIsSourceText", unfollowed := true, recurses := true, apart := false, narrowed := true }
def FnWordSpanIsSourceTextUptoSaid : Prop := fnWordSpanIsSourceTextUptoRow.holds Try.pinned (OpenSpec.upto fnWordSpanIsSourceTextSpec)

/-- 'n010_12.FnWordLitTable', WHERE WHAT IT READS IS OF BULK AT MOST 1048576: true; the input reads as it did. -/
def fnWordLitTableUptoRow : OpenClaim := { program := "ytimfajlnlfaffaa", sum := "c888443736accd73d1a41c52461c4d05e8a944a8ce1140c5cfc6592735e5a4b1", func := "mvdan.cc/sh/v3/n010_12.FnWordLitTable", spec := "fnWordLitTable", inPlace := ["internal/abi.NoEscape", "internal/bytealg.MakeNoZero"], apart := false, narrowed := true }
def FnWordLitTableUptoSaid : Prop := fnWordLitTableUptoRow.holds Try.pinned (OpenSpec.upto fnWordLitTableSpec)

/-- 'n010_146.FnWordLastEndConcat', WHERE WHAT IT READS IS OF BULK AT MOST 1048576: true; the input reads as it did. -/
def fnWordLastEndConcatUptoRow : OpenClaim := { program := "ytimfajlnlfaffaa", sum := "c888443736accd73d1a41c52461c4d05e8a944a8ce1140c5cfc6592735e5a4b1", func := "mvdan.cc/sh/v3/n010_146.FnWordLastEndConcat", spec := "fnWordLastEndConcat", unfollowed := true, recurses := true, apart := false, narrowed := true }
def FnWordLastEndConcatUptoSaid : Prop := fnWordLastEndConcatUptoRow.holds Try.pinned (OpenSpec.upto fnWordLastEndConcatSpec)

/-- 'n010_147.FnCallExprSpanLayout', WHERE WHAT IT READS IS OF BULK AT MOST 1048576: true; the input reads as it did. -/
def fnCallExprSpanLayoutUptoRow : OpenClaim := { program := "ytimfajlnlfaffaa", sum := "c888443736accd73d1a41c52461c4d05e8a944a8ce1140c5cfc6592735e5a4b1", func := "mvdan.cc/sh/v3/n010_147.FnCallExprSpanLayout", spec := "fnCallExprSpanLayout", unfollowed := true, recurses := true, apart := false, narrowed := true }
def FnCallExprSpanLayoutUptoSaid : Prop := fnCallExprSpanLayoutUptoRow.holds Try.pinned (OpenSpec.upto fnCallExprSpanLayoutSpec)

/-- 'n010_107.FnBraceExpSpanOnOneLine', WHERE WHAT IT READS IS OF BULK AT MOST 1048576: true; the input reads as it did. -/
def fnBraceExpSpanOnOneLineUptoRow : OpenClaim := { program := "ytimfajlnlfaffaa", sum := "c888443736accd73d1a41c52461c4d05e8a944a8ce1140c5cfc6592735e5a4b1", func := "mvdan.cc/sh/v3/n010_107.FnBraceExpSpanOnOneLine", spec := "fnBraceExpSpanOnOneLine", unfollowed := true, recurses := true, apart := false, narrowed := true }
def FnBraceExpSpanOnOneLineUptoSaid : Prop := fnBraceExpSpanOnOneLineUptoRow.holds Try.pinned (OpenSpec.upto fnBraceExpSpanOnOneLineSpec)

end Rows
end Go.Proofs.Ytimfajlnlfaffaa
