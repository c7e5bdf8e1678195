/-
  No cell of these rows narrows 'for every input' (looked for: loops, veiled, ifaces, maps, wideKeys, modest, calm, conditions, laid).
  DERIVED. THE GIVEN ROWS OF THIS SEAT. 4 by the template 'for every input the law returns true; each argument reads behind the call as it read before'; 0 by the template 'total and deterministic' (their statements: YtfeibikakhmecaaTotals.lean).
  GIVEN WITH THE SEED: the statements are not yours to turn. If you find one false, say at which input.
  Laid BY PROGRAM, IN A SANDBOX (cutbox-rows.mjs): the forced cells as the released guide's own fill.sh prints them over the translation 5e1a54c3e492634e… (all of the seat's roots in one cut). By AI agents, Wed Nov 11 2026. No macro, syntax, notation, axiom, sorry.
-/
import Derived.Test.YtfeibikakhmecaaChecked
import GoSem.Claim
import GoSem.ClaimJoined
import GoSem.ClaimMapViews
import Derived.JoinedTies
import Derived.KernelRfl
namespace Go.Proofs.Ytfeibikakhmecaa
/- THE CELL 'sum', in the pinned program and in every row, IS THE sha256 OF THE DUMP (.gsa) THAT YtfeibikakhmecaaProg.lean LOADS. Nothing in Lean hashes anything: it is a label: what it is worth is what the hold of that sum in a sandbox is worth. -/
noncomputable def Try.pinned : Pinned := { name := "ytfeibikakhmecaa", sum := "5e1a54c3e492634ed188ed1fa6cb67aa748f4a506057110c20eea88ad56085ef", checked := Try.checked }
namespace Rows
def none {H : Type} : Left H := { results := [], args := [] }

/-- 'n010_128.FnStmtsEndOnlyLastStmt': WHATEVER THE INPUT: true; the input reads as it did. -/
def fnStmtsEndOnlyLastStmtSpec : ChangeSpec := { name := "fnStmtsEndOnlyLastStmt", fn := fun _ => fun
  | [d] => { results := [.lit (.bool true)], args := [d] }
  | _ => none }
def fnStmtsEndOnlyLastStmtRow : OpenClaim := { program := "ytfeibikakhmecaa", sum := "5e1a54c3e492634ed188ed1fa6cb67aa748f4a506057110c20eea88ad56085ef", func := "mvdan.cc/sh/v3/n010_128.FnStmtsEndOnlyLastStmt", spec := "fnStmtsEndOnlyLastStmt", unfollowed := true, recurses := true, apart := false }
def FnStmtsEndOnlyLastStmtSaid : Prop := fnStmtsEndOnlyLastStmtRow.holds Try.pinned (OpenSpec.ofChange fnStmtsEndOnlyLastStmtSpec)

/-- ITS FALSE NEIGHBOUR: 'it returns false'. Refute it at one input. -/
def fnStmtsEndOnlyLastStmtWrong : ChangeSpec := { name := "fnStmtsEndOnlyLastStmt", fn := fun _ => fun
  | [d] => { results := [.lit (.bool false)], args := [d] }
  | _ => none }
def FnStmtsEndOnlyLastStmtWrongFalsely : Prop := fnStmtsEndOnlyLastStmtRow.holds Try.pinned (OpenSpec.ofChange fnStmtsEndOnlyLastStmtWrong)

/-- 'n010_128.FnStmtsPosNoStmts': WHATEVER THE INPUT: true; the input reads as it did. -/
def fnStmtsPosNoStmtsSpec : ChangeSpec := { name := "fnStmtsPosNoStmts", fn := fun _ => fun
  | [d] => { results := [.lit (.bool true)], args := [d] }
  | _ => none }
def fnStmtsPosNoStmtsRow : OpenClaim := { program := "ytfeibikakhmecaa", sum := "5e1a54c3e492634ed188ed1fa6cb67aa748f4a506057110c20eea88ad56085ef", func := "mvdan.cc/sh/v3/n010_128.FnStmtsPosNoStmts", spec := "fnStmtsPosNoStmts", apart := false }
def FnStmtsPosNoStmtsSaid : Prop := fnStmtsPosNoStmtsRow.holds Try.pinned (OpenSpec.ofChange fnStmtsPosNoStmtsSpec)

/-- ITS FALSE NEIGHBOUR: 'it returns false'. Refute it at one input. -/
def fnStmtsPosNoStmtsWrong : ChangeSpec := { name := "fnStmtsPosNoStmts", fn := fun _ => fun
  | [d] => { results := [.lit (.bool false)], args := [d] }
  | _ => none }
def FnStmtsPosNoStmtsWrongFalsely : Prop := fnStmtsPosNoStmtsRow.holds Try.pinned (OpenSpec.ofChange fnStmtsPosNoStmtsWrong)

/-- 'n010_128.FnFilePosIsEarliestCandidate': WHATEVER THE INPUT: true; the input reads as it did. -/
def fnFilePosIsEarliestCandidateSpec : ChangeSpec := { name := "fnFilePosIsEarliestCandidate", fn := fun _ => fun
  | [d1, d2] => { results := [.lit (.bool true)], args := [d1, d2] }
  | _ => none }
def fnFilePosIsEarliestCandidateRow : OpenClaim := { program := "ytfeibikakhmecaa", sum := "5e1a54c3e492634ed188ed1fa6cb67aa748f4a506057110c20eea88ad56085ef", func := "mvdan.cc/sh/v3/n010_128.FnFilePosIsEarliestCandidate", spec := "fnFilePosIsEarliestCandidate", apart := false }
def FnFilePosIsEarliestCandidateSaid : Prop := fnFilePosIsEarliestCandidateRow.holds Try.pinned (OpenSpec.ofChange fnFilePosIsEarliestCandidateSpec)

/-- ITS FALSE NEIGHBOUR: 'it returns false'. Refute it at one input. -/
def fnFilePosIsEarliestCandidateWrong : ChangeSpec := { name := "fnFilePosIsEarliestCandidate", fn := fun _ => fun
  | [d1, d2] => { results := [.lit (.bool false)], args := [d1, d2] }
  | _ => none }
def FnFilePosIsEarliestCandidateWrongFalsely : Prop := fnFilePosIsEarliestCandidateRow.holds Try.pinned (OpenSpec.ofChange fnFilePosIsEarliestCandidateWrong)

/-- 'n010_128.FnFileEndCoversLastComment': WHATEVER THE INPUT: true; the input reads as it did. -/
def fnFileEndCoversLastCommentSpec : ChangeSpec := { name := "fnFileEndCoversLastComment", fn := fun _ => fun
  | [d] => { results := [.lit (.bool true)], args := [d] }
  | _ => none }
def fnFileEndCoversLastCommentRow : OpenClaim := { program := "ytfeibikakhmecaa", sum := "5e1a54c3e492634ed188ed1fa6cb67aa748f4a506057110c20eea88ad56085ef", func := "mvdan.cc/sh/v3/n010_128.FnFileEndCoversLastComment", spec := "fnFileEndCoversLastComment", unfollowed := true, recurses := true, apart := false }
def FnFileEndCoversLastCommentSaid : Prop := fnFileEndCoversLastCommentRow.holds Try.pinned (OpenSpec.ofChange fnFileEndCoversLastCommentSpec)

/-- ITS FALSE NEIGHBOUR: 'it returns false'. Refute it at one input. -/
def fnFileEndCoversLastCommentWrong : ChangeSpec := { name := "fnFileEndCoversLastComment", fn := fun _ => fun
  | [d] => { results := [.lit (.bool false)], args := [d] }
  | _ => none }
def FnFileEndCoversLastCommentWrongFalsely : Prop := fnFileEndCoversLastCommentRow.holds Try.pinned (OpenSpec.ofChange fnFileEndCoversLastCommentWrong)

/- THE SECOND FORM. 'bulk': how many values and letters a reading holds, each counted each time it is reached (what is shared counts as often as it is met; a slice's spare places count too). A statement '..UptoSaid' is the law's where the arguments, and the package variables that the reading takes, are together of bulk at most 1048576: NARROWER than '..Said'. Prove '..Said' where nothing that the law and all that it calls make is longer than what came in: it says more and counts as full. Else prove '..UptoSaid'. A law counts once. -/
mutual
def uptoBulk {H : Type} : DataW H → Nat
  | .lit (.string bytes) => bytes.length + 1
  | .lit _ => 1
  | .nil => 1
  | .ptr d => uptoBulk d + 1
  | .slice elems spare => uptoBulkAll elems + uptoBulkAll spare + 1
  | .agg parts => uptoBulkAll parts + 1
  | .iface _ d => uptoBulk d + 1
  | .map entries => uptoBulkEntries entries + 1
  | .held _ => 1
def uptoBulkAll {H : Type} : List (DataW H) → Nat
  | [] => 0
  | d :: r => uptoBulk d + uptoBulkAll r
def uptoBulkEntries {H : Type} : List (Lit × DataW H) → Nat
  | [] => 0
  | x :: r => uptoBulkEntry x + uptoBulkEntries r
def uptoBulkEntry {H : Type} : Lit × DataW H → Nat
  | (.string bytes, d) => bytes.length + uptoBulk d + 1
  | (_, d) => uptoBulk d + 1
 end
def uptoSmall : (H : Type) → List (DataW H) → Bool := fun _ ds => decide (uptoBulkAll ds ≤ 1048576)
def OpenSpec.upto (s : _root_.Go.ChangeSpec) : _root_.Go.OpenSpec := { _root_.Go.OpenSpec.ofChange s with cond := some uptoSmall }

/-- 'n010_128.FnStmtsEndOnlyLastStmt', WHERE WHAT IT READS IS OF BULK AT MOST 1048576: true; the input reads as it did. -/
def fnStmtsEndOnlyLastStmtUptoRow : OpenClaim := { program := "ytfeibikakhmecaa", sum := "5e1a54c3e492634ed188ed1fa6cb67aa748f4a506057110c20eea88ad56085ef", func := "mvdan.cc/sh/v3/n010_128.FnStmtsEndOnlyLastStmt", spec := "fnStmtsEndOnlyLastStmt", unfollowed := true, recurses := true, apart := false, narrowed := true }
def FnStmtsEndOnlyLastStmtUptoSaid : Prop := fnStmtsEndOnlyLastStmtUptoRow.holds Try.pinned (OpenSpec.upto fnStmtsEndOnlyLastStmtSpec)

/-- 'n010_128.FnStmtsPosNoStmts', WHERE WHAT IT READS IS OF BULK AT MOST 1048576: true; the input reads as it did. -/
def fnStmtsPosNoStmtsUptoRow : OpenClaim := { program := "ytfeibikakhmecaa", sum := "5e1a54c3e492634ed188ed1fa6cb67aa748f4a506057110c20eea88ad56085ef", func := "mvdan.cc/sh/v3/n010_128.FnStmtsPosNoStmts", spec := "fnStmtsPosNoStmts", apart := false, narrowed := true }
def FnStmtsPosNoStmtsUptoSaid : Prop := fnStmtsPosNoStmtsUptoRow.holds Try.pinned (OpenSpec.upto fnStmtsPosNoStmtsSpec)

/-- 'n010_128.FnFilePosIsEarliestCandidate', WHERE WHAT IT READS IS OF BULK AT MOST 1048576: true; the input reads as it did. -/
def fnFilePosIsEarliestCandidateUptoRow : OpenClaim := { program := "ytfeibikakhmecaa", sum := "5e1a54c3e492634ed188ed1fa6cb67aa748f4a506057110c20eea88ad56085ef", func := "mvdan.cc/sh/v3/n010_128.FnFilePosIsEarliestCandidate", spec := "fnFilePosIsEarliestCandidate", apart := false, narrowed := true }
def FnFilePosIsEarliestCandidateUptoSaid : Prop := fnFilePosIsEarliestCandidateUptoRow.holds Try.pinned (OpenSpec.upto fnFilePosIsEarliestCandidateSpec)

/-- 'n010_128.FnFileEndCoversLastComment', WHERE WHAT IT READS IS OF BULK AT MOST 1048576: true; the input reads as it did. -/
def fnFileEndCoversLastCommentUptoRow : OpenClaim := { program := "ytfeibikakhmecaa", sum := "5e1a54c3e492634ed188ed1fa6cb67aa748f4a506057110c20eea88ad56085ef", func := "mvdan.cc/sh/v3/n010_128.FnFileEndCoversLastComment", spec := "fnFileEndCoversLastComment", unfollowed := true, recurses := true, apart := false, narrowed := true }
def FnFileEndCoversLastCommentUptoSaid : Prop := fnFileEndCoversLastCommentUptoRow.holds Try.pinned (OpenSpec.upto fnFileEndCoversLastCommentSpec)

end Rows
end Go.Proofs.Ytfeibikakhmecaa
