/-
  No cell of these rows narrows 'for every input' (looked for: loops, veiled, ifaces, maps, wideKeys, modest, calm, conditions, laid).
  DERIVED. THE GIVEN ROWS OF THIS SEAT. 12 by the template 'for every input the law returns true; each argument reads behind the call as it read before'; 0 by the template 'total and deterministic' (their statements: YtdphohobnmfbnaaTotals.lean).
  GIVEN WITH THE SEED: the statements are not yours to turn. If you find one false, say at which input.
  Laid BY PROGRAM, IN A SANDBOX (cutbox-rows.mjs): the forced cells as the released guide's own fill.sh prints them over the translation ea29e0eba0fc006d… (all of the seat's roots in one cut). By AI agents, Wed Nov 11 2026. No macro, syntax, notation, axiom, sorry.
-/
import Derived.Test.YtdphohobnmfbnaaChecked
import GoSem.Claim
import GoSem.ClaimJoined
import GoSem.ClaimMapViews
import Derived.JoinedTies
import Derived.KernelRfl
namespace Go.Proofs.Ytdphohobnmfbnaa
/- THE CELL 'sum', in the pinned program and in every row, IS THE sha256 OF THE DUMP (.gsa) THAT YtdphohobnmfbnaaProg.lean LOADS. Nothing in Lean hashes anything: it is a label: what it is worth is what the hold of that sum in a sandbox is worth. -/
noncomputable def Try.pinned : Pinned := { name := "ytdphohobnmfbnaa", sum := "ea29e0eba0fc006d3e6ffdfebd62f36c9a36c0ab3be5e0a991c9fa913b0fe592", checked := Try.checked }
namespace Rows
def none {H : Type} : Left H := { results := [], args := [] }

/-- 'n010_16.FnExtGlobEndStepBound': WHATEVER THE INPUT: true; the input reads as it did. -/
def fnExtGlobEndStepBoundSpec : ChangeSpec := { name := "fnExtGlobEndStepBound", fn := fun _ => fun
  | [d1, d2] => { results := [.lit (.bool true)], args := [d1, d2] }
  | _ => none }
def fnExtGlobEndStepBoundRow : OpenClaim := { program := "ytdphohobnmfbnaa", sum := "ea29e0eba0fc006d3e6ffdfebd62f36c9a36c0ab3be5e0a991c9fa913b0fe592", func := "mvdan.cc/sh/v3/n010_16.FnExtGlobEndStepBound", spec := "fnExtGlobEndStepBound", apart := false }
def FnExtGlobEndStepBoundSaid : Prop := fnExtGlobEndStepBoundRow.holds Try.pinned (OpenSpec.ofChange fnExtGlobEndStepBoundSpec)

/-- ITS FALSE NEIGHBOUR: 'it returns false'. Refute it at one input. -/
def fnExtGlobEndStepBoundWrong : ChangeSpec := { name := "fnExtGlobEndStepBound", fn := fun _ => fun
  | [d1, d2] => { results := [.lit (.bool false)], args := [d1, d2] }
  | _ => none }
def FnExtGlobEndStepBoundWrongFalsely : Prop := fnExtGlobEndStepBoundRow.holds Try.pinned (OpenSpec.ofChange fnExtGlobEndStepBoundWrong)

/-- 'n010_16.FnProcSubstSpanOrdered': WHATEVER THE INPUT: true; the input reads as it did. -/
def fnProcSubstSpanOrderedSpec : ChangeSpec := { name := "fnProcSubstSpanOrdered", fn := fun _ => fun
  | [d1, d2, d3, d4, d5] => { results := [.lit (.bool true)], args := [d1, d2, d3, d4, d5] }
  | _ => none }
def fnProcSubstSpanOrderedRow : OpenClaim := { program := "ytdphohobnmfbnaa", sum := "ea29e0eba0fc006d3e6ffdfebd62f36c9a36c0ab3be5e0a991c9fa913b0fe592", func := "mvdan.cc/sh/v3/n010_16.FnProcSubstSpanOrdered", spec := "fnProcSubstSpanOrdered", apart := false }
def FnProcSubstSpanOrderedSaid : Prop := fnProcSubstSpanOrderedRow.holds Try.pinned (OpenSpec.ofChange fnProcSubstSpanOrderedSpec)

/-- ITS FALSE NEIGHBOUR: 'it returns false'. Refute it at one input. -/
def fnProcSubstSpanOrderedWrong : ChangeSpec := { name := "fnProcSubstSpanOrdered", fn := fun _ => fun
  | [d1, d2, d3, d4, d5] => { results := [.lit (.bool false)], args := [d1, d2, d3, d4, d5] }
  | _ => none }
def FnProcSubstSpanOrderedWrongFalsely : Prop := fnProcSubstSpanOrderedRow.holds Try.pinned (OpenSpec.ofChange fnProcSubstSpanOrderedWrong)

/-- 'n010_15.FnDblQuotedSpanCoversBothQuotes': WHATEVER THE INPUT: true; the input reads as it did. -/
def fnDblQuotedSpanCoversBothQuotesSpec : ChangeSpec := { name := "fnDblQuotedSpanCoversBothQuotes", fn := fun _ => fun
  | [d1, d2, d3, d4, d5] => { results := [.lit (.bool true)], args := [d1, d2, d3, d4, d5] }
  | _ => none }
def fnDblQuotedSpanCoversBothQuotesRow : OpenClaim := { program := "ytdphohobnmfbnaa", sum := "ea29e0eba0fc006d3e6ffdfebd62f36c9a36c0ab3be5e0a991c9fa913b0fe592", func := "mvdan.cc/sh/v3/n010_15.FnDblQuotedSpanCoversBothQuotes", spec := "fnDblQuotedSpanCoversBothQuotes", apart := false }
def FnDblQuotedSpanCoversBothQuotesSaid : Prop := fnDblQuotedSpanCoversBothQuotesRow.holds Try.pinned (OpenSpec.ofChange fnDblQuotedSpanCoversBothQuotesSpec)

/-- ITS FALSE NEIGHBOUR: 'it returns false'. Refute it at one input. -/
def fnDblQuotedSpanCoversBothQuotesWrong : ChangeSpec := { name := "fnDblQuotedSpanCoversBothQuotes", fn := fun _ => fun
  | [d1, d2, d3, d4, d5] => { results := [.lit (.bool false)], args := [d1, d2, d3, d4, d5] }
  | _ => none }
def FnDblQuotedSpanCoversBothQuotesWrongFalsely : Prop := fnDblQuotedSpanCoversBothQuotesRow.holds Try.pinned (OpenSpec.ofChange fnDblQuotedSpanCoversBothQuotesWrong)

/-- 'n010_161.FnParenTestEndMonotone': WHATEVER THE INPUT: true; the input reads as it did. -/
def fnParenTestEndMonotoneSpec : ChangeSpec := { name := "fnParenTestEndMonotone", fn := fun _ => fun
  | [d1, d2, d3, d4] => { results := [.lit (.bool true)], args := [d1, d2, d3, d4] }
  | _ => none }
def fnParenTestEndMonotoneRow : OpenClaim := { program := "ytdphohobnmfbnaa", sum := "ea29e0eba0fc006d3e6ffdfebd62f36c9a36c0ab3be5e0a991c9fa913b0fe592", func := "mvdan.cc/sh/v3/n010_161.FnParenTestEndMonotone", spec := "fnParenTestEndMonotone", apart := false }
def FnParenTestEndMonotoneSaid : Prop := fnParenTestEndMonotoneRow.holds Try.pinned (OpenSpec.ofChange fnParenTestEndMonotoneSpec)

/-- ITS FALSE NEIGHBOUR: 'it returns false'. Refute it at one input. -/
def fnParenTestEndMonotoneWrong : ChangeSpec := { name := "fnParenTestEndMonotone", fn := fun _ => fun
  | [d1, d2, d3, d4] => { results := [.lit (.bool false)], args := [d1, d2, d3, d4] }
  | _ => none }
def FnParenTestEndMonotoneWrongFalsely : Prop := fnParenTestEndMonotoneRow.holds Try.pinned (OpenSpec.ofChange fnParenTestEndMonotoneWrong)

/-- 'n010_161.FnDeclClausePosNotAfterEnd': WHATEVER THE INPUT: true; the input reads as it did. -/
def fnDeclClausePosNotAfterEndSpec : ChangeSpec := { name := "fnDeclClausePosNotAfterEnd", fn := fun _ => fun
  | [d1, d2, d3, d4, d5, d6, d7, d8, d9, d10, d11] => { results := [.lit (.bool true)], args := [d1, d2, d3, d4, d5, d6, d7, d8, d9, d10, d11] }
  | _ => none }
def fnDeclClausePosNotAfterEndRow : OpenClaim := { program := "ytdphohobnmfbnaa", sum := "ea29e0eba0fc006d3e6ffdfebd62f36c9a36c0ab3be5e0a991c9fa913b0fe592", func := "mvdan.cc/sh/v3/n010_161.FnDeclClausePosNotAfterEnd", spec := "fnDeclClausePosNotAfterEnd", unfollowed := true, recurses := true, apart := false }
def FnDeclClausePosNotAfterEndSaid : Prop := fnDeclClausePosNotAfterEndRow.holds Try.pinned (OpenSpec.ofChange fnDeclClausePosNotAfterEndSpec)

/-- ITS FALSE NEIGHBOUR: 'it returns false'. Refute it at one input. -/
def fnDeclClausePosNotAfterEndWrong : ChangeSpec := { name := "fnDeclClausePosNotAfterEnd", fn := fun _ => fun
  | [d1, d2, d3, d4, d5, d6, d7, d8, d9, d10, d11] => { results := [.lit (.bool false)], args := [d1, d2, d3, d4, d5, d6, d7, d8, d9, d10, d11] }
  | _ => none }
def FnDeclClausePosNotAfterEndWrongFalsely : Prop := fnDeclClausePosNotAfterEndRow.holds Try.pinned (OpenSpec.ofChange fnDeclClausePosNotAfterEndWrong)

/-- 'n010_131.FnArithmCmdSpan': WHATEVER THE INPUT: true; the input reads as it did. -/
def fnArithmCmdSpanSpec : ChangeSpec := { name := "fnArithmCmdSpan", fn := fun _ => fun
  | [d1, d2, d3, d4] => { results := [.lit (.bool true)], args := [d1, d2, d3, d4] }
  | _ => none }
def fnArithmCmdSpanRow : OpenClaim := { program := "ytdphohobnmfbnaa", sum := "ea29e0eba0fc006d3e6ffdfebd62f36c9a36c0ab3be5e0a991c9fa913b0fe592", func := "mvdan.cc/sh/v3/n010_131.FnArithmCmdSpan", spec := "fnArithmCmdSpan", apart := false }
def FnArithmCmdSpanSaid : Prop := fnArithmCmdSpanRow.holds Try.pinned (OpenSpec.ofChange fnArithmCmdSpanSpec)

/-- ITS FALSE NEIGHBOUR: 'it returns false'. Refute it at one input. -/
def fnArithmCmdSpanWrong : ChangeSpec := { name := "fnArithmCmdSpan", fn := fun _ => fun
  | [d1, d2, d3, d4] => { results := [.lit (.bool false)], args := [d1, d2, d3, d4] }
  | _ => none }
def FnArithmCmdSpanWrongFalsely : Prop := fnArithmCmdSpanRow.holds Try.pinned (OpenSpec.ofChange fnArithmCmdSpanWrong)

/-- 'n010_11.FnStmtEndFromTerminator': WHATEVER THE INPUT: true; the input reads as it did. -/
def fnStmtEndFromTerminatorSpec : ChangeSpec := { name := "fnStmtEndFromTerminator", fn := fun _ => fun
  | [d1, d2, d3, d4, d5, d6, d7, d8, d9, d10, d11, d12] => { results := [.lit (.bool true)], args := [d1, d2, d3, d4, d5, d6, d7, d8, d9, d10, d11, d12] }
  | _ => none }
def fnStmtEndFromTerminatorRow : OpenClaim := { program := "ytdphohobnmfbnaa", sum := "ea29e0eba0fc006d3e6ffdfebd62f36c9a36c0ab3be5e0a991c9fa913b0fe592", func := "mvdan.cc/sh/v3/n010_11.FnStmtEndFromTerminator", spec := "fnStmtEndFromTerminator", unfollowed := true, recurses := true, apart := false }
def FnStmtEndFromTerminatorSaid : Prop := fnStmtEndFromTerminatorRow.holds Try.pinned (OpenSpec.ofChange fnStmtEndFromTerminatorSpec)

/-- ITS FALSE NEIGHBOUR: 'it returns false'. Refute it at one input. -/
def fnStmtEndFromTerminatorWrong : ChangeSpec := { name := "fnStmtEndFromTerminator", fn := fun _ => fun
  | [d1, d2, d3, d4, d5, d6, d7, d8, d9, d10, d11, d12] => { results := [.lit (.bool false)], args := [d1, d2, d3, d4, d5, d6, d7, d8, d9, d10, d11, d12] }
  | _ => none }
def FnStmtEndFromTerminatorWrongFalsely : Prop := fnStmtEndFromTerminatorRow.holds Try.pinned (OpenSpec.ofChange fnStmtEndFromTerminatorWrong)

/-- 'n010_11.FnStmtEndAfterPos': WHATEVER THE INPUT: true; the input reads as it did. -/
def fnStmtEndAfterPosSpec : ChangeSpec := { name := "fnStmtEndAfterPos", fn := fun _ => fun
  | [d1, d2, d3, d4, d5, d6, d7, d8, d9, d10, d11, d12] => { results := [.lit (.bool true)], args := [d1, d2, d3, d4, d5, d6, d7, d8, d9, d10, d11, d12] }
  | _ => none }
def fnStmtEndAfterPosRow : OpenClaim := { program := "ytdphohobnmfbnaa", sum := "ea29e0eba0fc006d3e6ffdfebd62f36c9a36c0ab3be5e0a991c9fa913b0fe592", func := "mvdan.cc/sh/v3/n010_11.FnStmtEndAfterPos", spec := "fnStmtEndAfterPos", unfollowed := true, recurses := true, apart := false }
def FnStmtEndAfterPosSaid : Prop := fnStmtEndAfterPosRow.holds Try.pinned (OpenSpec.ofChange fnStmtEndAfterPosSpec)

/-- ITS FALSE NEIGHBOUR: 'it returns false'. Refute it at one input. -/
def fnStmtEndAfterPosWrong : ChangeSpec := { name := "fnStmtEndAfterPos", fn := fun _ => fun
  | [d1, d2, d3, d4, d5, d6, d7, d8, d9, d10, d11, d12] => { results := [.lit (.bool false)], args := [d1, d2, d3, d4, d5, d6, d7, d8, d9, d10, d11, d12] }
  | _ => none }
def FnStmtEndAfterPosWrongFalsely : Prop := fnStmtEndAfterPosRow.holds Try.pinned (OpenSpec.ofChange fnStmtEndAfterPosWrong)

/-- 'n010_151.FnWantsNewlineMonotone': WHATEVER THE INPUT: true; the input reads as it did. -/
def fnWantsNewlineMonotoneSpec : ChangeSpec := { name := "fnWantsNewlineMonotone", fn := fun _ => fun
  | [d1, d2, d3, d4, d5, d6, d7, d8, d9] => { results := [.lit (.bool true)], args := [d1, d2, d3, d4, d5, d6, d7, d8, d9] }
  | _ => none }
def fnWantsNewlineMonotoneRow : OpenClaim := { program := "ytdphohobnmfbnaa", sum := "ea29e0eba0fc006d3e6ffdfebd62f36c9a36c0ab3be5e0a991c9fa913b0fe592", func := "mvdan.cc/sh/v3/n010_151.FnWantsNewlineMonotone", spec := "fnWantsNewlineMonotone", unfollowed := true, recurses := true, apart := false }
def FnWantsNewlineMonotoneSaid : Prop := fnWantsNewlineMonotoneRow.holds Try.pinned (OpenSpec.ofChange fnWantsNewlineMonotoneSpec)

/-- ITS FALSE NEIGHBOUR: 'it returns false'. Refute it at one input. -/
def fnWantsNewlineMonotoneWrong : ChangeSpec := { name := "fnWantsNewlineMonotone", fn := fun _ => fun
  | [d1, d2, d3, d4, d5, d6, d7, d8, d9] => { results := [.lit (.bool false)], args := [d1, d2, d3, d4, d5, d6, d7, d8, d9] }
  | _ => none }
def FnWantsNewlineMonotoneWrongFalsely : Prop := fnWantsNewlineMonotoneRow.holds Try.pinned (OpenSpec.ofChange fnWantsNewlineMonotoneWrong)

/-- 'n010_147.FnRedirectSpanOrdered': WHATEVER THE INPUT: true; the input reads as it did. -/
def fnRedirectSpanOrderedSpec : ChangeSpec := { name := "fnRedirectSpanOrdered", fn := fun _ => fun
  | [d1, d2, d3, d4, d5, d6, d7] => { results := [.lit (.bool true)], args := [d1, d2, d3, d4, d5, d6, d7] }
  | _ => none }
def fnRedirectSpanOrderedRow : OpenClaim := { program := "ytdphohobnmfbnaa", sum := "ea29e0eba0fc006d3e6ffdfebd62f36c9a36c0ab3be5e0a991c9fa913b0fe592", func := "mvdan.cc/sh/v3/n010_147.FnRedirectSpanOrdered", spec := "fnRedirectSpanOrdered", unfollowed := true, recurses := true, apart := false }
def FnRedirectSpanOrderedSaid : Prop := fnRedirectSpanOrderedRow.holds Try.pinned (OpenSpec.ofChange fnRedirectSpanOrderedSpec)

/-- ITS FALSE NEIGHBOUR: 'it returns false'. Refute it at one input. -/
def fnRedirectSpanOrderedWrong : ChangeSpec := { name := "fnRedirectSpanOrdered", fn := fun _ => fun
  | [d1, d2, d3, d4, d5, d6, d7] => { results := [.lit (.bool false)], args := [d1, d2, d3, d4, d5, d6, d7] }
  | _ => none }
def FnRedirectSpanOrderedWrongFalsely : Prop := fnRedirectSpanOrderedRow.holds Try.pinned (OpenSpec.ofChange fnRedirectSpanOrderedWrong)

/-- 'n010_19.FnUnaryArithmPosCaseTable': WHATEVER THE INPUT: true; the input reads as it did. -/
def fnUnaryArithmPosCaseTableSpec : ChangeSpec := { name := "fnUnaryArithmPosCaseTable", fn := fun _ => fun
  | [d1, d2, d3, d4, d5, d6, d7, d8] => { results := [.lit (.bool true)], args := [d1, d2, d3, d4, d5, d6, d7, d8] }
  | _ => none }
def fnUnaryArithmPosCaseTableRow : OpenClaim := { program := "ytdphohobnmfbnaa", sum := "ea29e0eba0fc006d3e6ffdfebd62f36c9a36c0ab3be5e0a991c9fa913b0fe592", func := "mvdan.cc/sh/v3/n010_19.FnUnaryArithmPosCaseTable", spec := "fnUnaryArithmPosCaseTable", unfollowed := true, recurses := true, apart := false }
def FnUnaryArithmPosCaseTableSaid : Prop := fnUnaryArithmPosCaseTableRow.holds Try.pinned (OpenSpec.ofChange fnUnaryArithmPosCaseTableSpec)

/-- ITS FALSE NEIGHBOUR: 'it returns false'. Refute it at one input. -/
def fnUnaryArithmPosCaseTableWrong : ChangeSpec := { name := "fnUnaryArithmPosCaseTable", fn := fun _ => fun
  | [d1, d2, d3, d4, d5, d6, d7, d8] => { results := [.lit (.bool false)], args := [d1, d2, d3, d4, d5, d6, d7, d8] }
  | _ => none }
def FnUnaryArithmPosCaseTableWrongFalsely : Prop := fnUnaryArithmPosCaseTableRow.holds Try.pinned (OpenSpec.ofChange fnUnaryArithmPosCaseTableWrong)

/-- 'n010_2.FnArithmOpsAcceptsExactly22Ascii': WHATEVER THE INPUT: true; the input reads as it did. -/
def fnArithmOpsAcceptsExactly22AsciiSpec : ChangeSpec := { name := "fnArithmOpsAcceptsExactly22Ascii", fn := fun _ => fun
  | [] => { results := [.lit (.bool true)], args := [] }
  | _ => none }
def fnArithmOpsAcceptsExactly22AsciiRow : OpenClaim := { program := "ytdphohobnmfbnaa", sum := "ea29e0eba0fc006d3e6ffdfebd62f36c9a36c0ab3be5e0a991c9fa913b0fe592", func := "mvdan.cc/sh/v3/n010_2.FnArithmOpsAcceptsExactly22Ascii", spec := "fnArithmOpsAcceptsExactly22Ascii", apart := false }
def FnArithmOpsAcceptsExactly22AsciiSaid : Prop := fnArithmOpsAcceptsExactly22AsciiRow.holds Try.pinned (OpenSpec.ofChange fnArithmOpsAcceptsExactly22AsciiSpec)

/-- ITS FALSE NEIGHBOUR: 'it returns false'. Refute it at one input. -/
def fnArithmOpsAcceptsExactly22AsciiWrong : ChangeSpec := { name := "fnArithmOpsAcceptsExactly22Ascii", fn := fun _ => fun
  | [] => { results := [.lit (.bool false)], args := [] }
  | _ => none }
def FnArithmOpsAcceptsExactly22AsciiWrongFalsely : Prop := fnArithmOpsAcceptsExactly22AsciiRow.holds Try.pinned (OpenSpec.ofChange fnArithmOpsAcceptsExactly22AsciiWrong)

/- THE SECOND FORM. 'bulk': how many values and letters a reading holds, each counted each time it is reached (what is shared counts as often as it is met; a slice's spare places count too). A statement '..UptoSaid' is the law's where the arguments, and the package variables that the reading takes, are together of bulk at most 1048576: NARROWER than '..Said'. Prove '..Said' where nothing that the law and all that it calls make is longer than what came in: it says more and counts as full. Else prove '..UptoSaid'. A law counts once. -/
mutual
def uptoBulk {H : Type} : DataW H → Nat
  | .lit (.string bytes) => bytes.length + 1
  | .lit _ => 1
  | .nil => 1
  | .ptr d => uptoBulk d + 1
  | .slice elems spare => uptoBulkAll elems + uptoBulkAll spare + 1
  | .agg parts => uptoBulkAll parts + 1
  | .iface _ d => uptoBulk d + 1
  | .map entries => uptoBulkEntries entries + 1
  | .held _ => 1
def uptoBulkAll {H : Type} : List (DataW H) → Nat
  | [] => 0
  | d :: r => uptoBulk d + uptoBulkAll r
def uptoBulkEntries {H : Type} : List (Lit × DataW H) → Nat
  | [] => 0
  | x :: r => uptoBulkEntry x + uptoBulkEntries r
def uptoBulkEntry {H : Type} : Lit × DataW H → Nat
  | (.string bytes, d) => bytes.length + uptoBulk d + 1
  | (_, d) => uptoBulk d + 1
 end
def uptoSmall : (H : Type) → List (DataW H) → Bool := fun _ ds => decide (uptoBulkAll ds ≤ 1048576)
def OpenSpec.upto (s : _root_.Go.ChangeSpec) : _root_.Go.OpenSpec := { _root_.Go.OpenSpec.ofChange s with cond := some uptoSmall }

/-- 'n010_16.FnExtGlobEndStepBound', WHERE WHAT IT READS IS OF BULK AT MOST 1048576: true; the input reads as it did. -/
def fnExtGlobEndStepBoundUptoRow : OpenClaim := { program := "ytdphohobnmfbnaa", sum := "ea29e0eba0fc006d3e6ffdfebd62f36c9a36c0ab3be5e0a991c9fa913b0fe592", func := "mvdan.cc/sh/v3/n010_16.FnExtGlobEndStepBound", spec := "fnExtGlobEndStepBound", apart := false, narrowed := true }
def FnExtGlobEndStepBoundUptoSaid : Prop := fnExtGlobEndStepBoundUptoRow.holds Try.pinned (OpenSpec.upto fnExtGlobEndStepBoundSpec)

/-- 'n010_16.FnProcSubstSpanOrdered', WHERE WHAT IT READS IS OF BULK AT MOST 1048576: true; the input reads as it did. -/
def fnProcSubstSpanOrderedUptoRow : OpenClaim := { program := "ytdphohobnmfbnaa", sum := "ea29e0eba0fc006d3e6ffdfebd62f36c9a36c0ab3be5e0a991c9fa913b0fe592", func := "mvdan.cc/sh/v3/n010_16.FnProcSubstSpanOrdered", spec := "fnProcSubstSpanOrdered", apart := false, narrowed := true }
def FnProcSubstSpanOrderedUptoSaid : Prop := fnProcSubstSpanOrderedUptoRow.holds Try.pinned (OpenSpec.upto fnProcSubstSpanOrderedSpec)

/-- 'n010_15.FnDblQuotedSpanCoversBothQuotes', WHERE WHAT IT READS IS OF BULK AT MOST 1048576: true; the input reads as it did. -/
def fnDblQuotedSpanCoversBothQuotesUptoRow : OpenClaim := { program := "ytdphohobnmfbnaa", sum := "ea29e0eba0fc006d3e6ffdfebd62f36c9a36c0ab3be5e0a991c9fa913b0fe592", func := "mvdan.cc/sh/v3/n010_15.FnDblQuotedSpanCoversBothQuotes", spec := "fnDblQuotedSpanCoversBothQuotes", apart := false, narrowed := true }
def FnDblQuotedSpanCoversBothQuotesUptoSaid : Prop := fnDblQuotedSpanCoversBothQuotesUptoRow.holds Try.pinned (OpenSpec.upto fnDblQuotedSpanCoversBothQuotesSpec)

/-- 'n010_161.FnParenTestEndMonotone', WHERE WHAT IT READS IS OF BULK AT MOST 1048576: true; the input reads as it did. -/
def fnParenTestEndMonotoneUptoRow : OpenClaim := { program := "ytdphohobnmfbnaa", sum := "ea29e0eba0fc006d3e6ffdfebd62f36c9a36c0ab3be5e0a991c9fa913b0fe592", func := "mvdan.cc/sh/v3/n010_161.FnParenTestEndMonotone", spec := "fnParenTestEndMonotone", apart := false, narrowed := true }
def FnParenTestEndMonotoneUptoSaid : Prop := fnParenTestEndMonotoneUptoRow.holds Try.pinned (OpenSpec.upto fnParenTestEndMonotoneSpec)

/-- 'n010_161.FnDeclClausePosNotAfterEnd', WHERE WHAT IT READS IS OF BULK AT MOST 1048576: true; the input reads as it did. -/
def fnDeclClausePosNotAfterEndUptoRow : OpenClaim := { program := "ytdphohobnmfbnaa", sum := "ea29e0eba0fc006d3e6ffdfebd62f36c9a36c0ab3be5e0a991c9fa913b0fe592", func := "mvdan.cc/sh/v3/n010_161.FnDeclClausePosNotAfterEnd", spec := "fnDeclClausePosNotAfterEnd", unfollowed := true, recurses := true, apart := false, narrowed := true }
def FnDeclClausePosNotAfterEndUptoSaid : Prop := fnDeclClausePosNotAfterEndUptoRow.holds Try.pinned (OpenSpec.upto fnDeclClausePosNotAfterEndSpec)

/-- 'n010_131.FnArithmCmdSpan', WHERE WHAT IT READS IS OF BULK AT MOST 1048576: true; the input reads as it did. -/
def fnArithmCmdSpanUptoRow : OpenClaim := { program := "ytdphohobnmfbnaa", sum := "ea29e0eba0fc006d3e6ffdfebd62f36c9a36c0ab3be5e0a991c9fa913b0fe592", func := "mvdan.cc/sh/v3/n010_131.FnArithmCmdSpan", spec := "fnArithmCmdSpan", apart := false, narrowed := true }
def FnArithmCmdSpanUptoSaid : Prop := fnArithmCmdSpanUptoRow.holds Try.pinned (OpenSpec.upto fnArithmCmdSpanSpec)

/-- 'n010_11.FnStmtEndFromTerminator', WHERE WHAT IT READS IS OF BULK AT MOST 1048576: true; the input reads as it did. -/
def fnStmtEndFromTerminatorUptoRow : OpenClaim := { program := "ytdphohobnmfbnaa", sum := "ea29e0eba0fc006d3e6ffdfebd62f36c9a36c0ab3be5e0a991c9fa913b0fe592", func := "mvdan.cc/sh/v3/n010_11.FnStmtEndFromTerminator", spec := "fnStmtEndFromTerminator", unfollowed := true, recurses := true, apart := false, narrowed := true }
def FnStmtEndFromTerminatorUptoSaid : Prop := fnStmtEndFromTerminatorUptoRow.holds Try.pinned (OpenSpec.upto fnStmtEndFromTerminatorSpec)

/-- 'n010_11.FnStmtEndAfterPos', WHERE WHAT IT READS IS OF BULK AT MOST 1048576: true; the input reads as it did. -/
def fnStmtEndAfterPosUptoRow : OpenClaim := { program := "ytdphohobnmfbnaa", sum := "ea29e0eba0fc006d3e6ffdfebd62f36c9a36c0ab3be5e0a991c9fa913b0fe592", func := "mvdan.cc/sh/v3/n010_11.FnStmtEndAfterPos", spec := "fnStmtEndAfterPos", unfollowed := true, recurses := true, apart := false, narrowed := true }
def FnStmtEndAfterPosUptoSaid : Prop := fnStmtEndAfterPosUptoRow.holds Try.pinned (OpenSpec.upto fnStmtEndAfterPosSpec)

/-- 'n010_151.FnWantsNewlineMonotone', WHERE WHAT IT READS IS OF BULK AT MOST 1048576: true; the input reads as it did. -/
def fnWantsNewlineMonotoneUptoRow : OpenClaim := { program := "ytdphohobnmfbnaa", sum := "ea29e0eba0fc006d3e6ffdfebd62f36c9a36c0ab3be5e0a991c9fa913b0fe592", func := "mvdan.cc/sh/v3/n010_151.FnWantsNewlineMonotone", spec := "fnWantsNewlineMonotone", unfollowed := true, recurses := true, apart := false, narrowed := true }
def FnWantsNewlineMonotoneUptoSaid : Prop := fnWantsNewlineMonotoneUptoRow.holds Try.pinned (OpenSpec.upto fnWantsNewlineMonotoneSpec)

/-- 'n010_147.FnRedirectSpanOrdered', WHERE WHAT IT READS IS OF BULK AT MOST 1048576: true; the input reads as it did. -/
def fnRedirectSpanOrderedUptoRow : OpenClaim := { program := "ytdphohobnmfbnaa", sum := "ea29e0eba0fc006d3e6ffdfebd62f36c9a36c0ab3be5e0a991c9fa913b0fe592", func := "mvdan.cc/sh/v3/n010_147.FnRedirectSpanOrdered", spec := "fnRedirectSpanOrdered", unfollowed := true, recurses := true, apart := false, narrowed := true }
def FnRedirectSpanOrderedUptoSaid : Prop := fnRedirectSpanOrderedUptoRow.holds Try.pinned (OpenSpec.upto fnRedirectSpanOrderedSpec)

/-- 'n010_19.FnUnaryArithmPosCaseTable', WHERE WHAT IT READS IS OF BULK AT MOST 1048576: true; the input reads as it did. -/
def fnUnaryArithmPosCaseTableUptoRow : OpenClaim := { program := "ytdphohobnmfbnaa", sum := "ea29e0eba0fc006d3e6ffdfebd62f36c9a36c0ab3be5e0a991c9fa913b0fe592", func := "mvdan.cc/sh/v3/n010_19.FnUnaryArithmPosCaseTable", spec := "fnUnaryArithmPosCaseTable", unfollowed := true, recurses := true, apart := false, narrowed := true }
def FnUnaryArithmPosCaseTableUptoSaid : Prop := fnUnaryArithmPosCaseTableUptoRow.holds Try.pinned (OpenSpec.upto fnUnaryArithmPosCaseTableSpec)

/-- 'n010_2.FnArithmOpsAcceptsExactly22Ascii', WHERE WHAT IT READS IS OF BULK AT MOST 1048576: true; the input reads as it did. -/
def fnArithmOpsAcceptsExactly22AsciiUptoRow : OpenClaim := { program := "ytdphohobnmfbnaa", sum := "ea29e0eba0fc006d3e6ffdfebd62f36c9a36c0ab3be5e0a991c9fa913b0fe592", func := "mvdan.cc/sh/v3/n010_2.FnArithmOpsAcceptsExactly22Ascii", spec := "fnArithmOpsAcceptsExactly22Ascii", apart := false, narrowed := true }
def FnArithmOpsAcceptsExactly22AsciiUptoSaid : Prop := fnArithmOpsAcceptsExactly22AsciiUptoRow.holds Try.pinned (OpenSpec.upto fnArithmOpsAcceptsExactly22AsciiSpec)

end Rows
end Go.Proofs.Ytdphohobnmfbnaa
