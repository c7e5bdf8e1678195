/-
  No cell of these rows narrows 'for every input' (looked for: loops, veiled, ifaces, maps, wideKeys, modest, calm, conditions, laid).
  DERIVED. THE GIVEN ROWS OF THIS SEAT. 3 by the template 'for every input the law returns true; each argument reads behind the call as it read before'; 0 by the template 'total and deterministic' (their statements: YtdmmpgeaendjpaaTotals.lean).
  GIVEN WITH THE SEED: the statements are not yours to turn. If you find one false, say at which input.
  Laid BY PROGRAM, IN A SANDBOX (cutbox-rows.mjs): the forced cells as the released guide's own fill.sh prints them over the translation caae2838c8b61eb6… (all of the seat's roots in one cut). By AI agents, Wed Nov 11 2026. No macro, syntax, notation, axiom, sorry.
-/
import Derived.Test.YtdmmpgeaendjpaaChecked
import GoSem.Claim
import GoSem.ClaimJoined
import GoSem.ClaimMapViews
import Derived.JoinedTies
import Derived.KernelRfl
namespace Go.Proofs.Ytdmmpgeaendjpaa
/- THE CELL 'sum', in the pinned program and in every row, IS THE sha256 OF THE DUMP (.gsa) THAT YtdmmpgeaendjpaaProg.lean LOADS. Nothing in Lean hashes anything: it is a label: what it is worth is what the hold of that sum in a sandbox is worth. -/
noncomputable def Try.pinned : Pinned := { name := "ytdmmpgeaendjpaa", sum := "caae2838c8b61eb6c9365c544be4f1ec77a98bc6441d5730ea1f0f78bcbdfdd4", checked := Try.checked }
namespace Rows
def none {H : Type} : Left H := { results := [], args := [] }

/-- 'n010_144.FnUnquotedWordBytesSpec': WHATEVER THE INPUT: true; the input reads as it did. -/
def fnUnquotedWordBytesSpecSpec : ChangeSpec := { name := "fnUnquotedWordBytesSpec", fn := fun _ => fun
  | [d1, d2] => { results := [.lit (.bool true)], args := [d1, d2] }
  | _ => none }
def fnUnquotedWordBytesSpecRow : OpenClaim := { program := "ytdmmpgeaendjpaa", sum := "caae2838c8b61eb6c9365c544be4f1ec77a98bc6441d5730ea1f0f78bcbdfdd4", func := "mvdan.cc/sh/v3/n010_144.FnUnquotedWordBytesSpec", spec := "fnUnquotedWordBytesSpec", unfollowed := true, recurses := true, apart := false }
def FnUnquotedWordBytesSpecSaid : Prop := fnUnquotedWordBytesSpecRow.holds Try.pinned (OpenSpec.ofChange fnUnquotedWordBytesSpecSpec)

/-- ITS FALSE NEIGHBOUR: 'it returns false'. Refute it at one input. -/
def fnUnquotedWordBytesSpecWrong : ChangeSpec := { name := "fnUnquotedWordBytesSpec", fn := fun _ => fun
  | [d1, d2] => { results := [.lit (.bool false)], args := [d1, d2] }
  | _ => none }
def FnUnquotedWordBytesSpecWrongFalsely : Prop := fnUnquotedWordBytesSpecRow.holds Try.pinned (OpenSpec.ofChange fnUnquotedWordBytesSpecWrong)

/-- 'n010_144.FnUnquotedWordPartSpec': WHATEVER THE INPUT: true; the input reads as it did. -/
def fnUnquotedWordPartSpecSpec : ChangeSpec := { name := "fnUnquotedWordPartSpec", fn := fun _ => fun
  | [d1, d2, d3, d4] => { results := [.lit (.bool true)], args := [d1, d2, d3, d4] }
  | _ => none }
def fnUnquotedWordPartSpecRow : OpenClaim := { program := "ytdmmpgeaendjpaa", sum := "caae2838c8b61eb6c9365c544be4f1ec77a98bc6441d5730ea1f0f78bcbdfdd4", func := "mvdan.cc/sh/v3/n010_144.FnUnquotedWordPartSpec", spec := "fnUnquotedWordPartSpec", unfollowed := true, recurses := true, apart := false }
def FnUnquotedWordPartSpecSaid : Prop := fnUnquotedWordPartSpecRow.holds Try.pinned (OpenSpec.ofChange fnUnquotedWordPartSpecSpec)

/-- ITS FALSE NEIGHBOUR: 'it returns false'. Refute it at one input. -/
def fnUnquotedWordPartSpecWrong : ChangeSpec := { name := "fnUnquotedWordPartSpec", fn := fun _ => fun
  | [d1, d2, d3, d4] => { results := [.lit (.bool false)], args := [d1, d2, d3, d4] }
  | _ => none }
def FnUnquotedWordPartSpecWrongFalsely : Prop := fnUnquotedWordPartSpecRow.holds Try.pinned (OpenSpec.ofChange fnUnquotedWordPartSpecWrong)

/-- 'n010_144.FnPostNestedScript': WHATEVER THE INPUT: true; the input reads as it did. -/
def fnPostNestedScriptSpec : ChangeSpec := { name := "fnPostNestedScript", fn := fun _ => fun
  | [d] => { results := [.lit (.bool true)], args := [d] }
  | _ => none }
def fnPostNestedScriptRow : OpenClaim := { program := "ytdmmpgeaendjpaa", sum := "caae2838c8b61eb6c9365c544be4f1ec77a98bc6441d5730ea1f0f78bcbdfdd4", func := "mvdan.cc/sh/v3/n010_144.FnPostNestedScript", spec := "fnPostNestedScript", unfollowed := true, recurses := true, apart := false }
def FnPostNestedScriptSaid : Prop := fnPostNestedScriptRow.holds Try.pinned (OpenSpec.ofChange fnPostNestedScriptSpec)

/-- ITS FALSE NEIGHBOUR: 'it returns false'. Refute it at one input. -/
def fnPostNestedScriptWrong : ChangeSpec := { name := "fnPostNestedScript", fn := fun _ => fun
  | [d] => { results := [.lit (.bool false)], args := [d] }
  | _ => none }
def FnPostNestedScriptWrongFalsely : Prop := fnPostNestedScriptRow.holds Try.pinned (OpenSpec.ofChange fnPostNestedScriptWrong)

/- THE SECOND FORM. 'bulk': how many values and letters a reading holds, each counted each time it is reached (what is shared counts as often as it is met; a slice's spare places count too). A statement '..UptoSaid' is the law's where the arguments, and the package variables that the reading takes, are together of bulk at most 1048576: NARROWER than '..Said'. Prove '..Said' where nothing that the law and all that it calls make is longer than what came in: it says more and counts as full. Else prove '..UptoSaid'. A law counts once. -/
mutual
def uptoBulk {H : Type} : DataW H → Nat
  | .lit (.string bytes) => bytes.length + 1
  | .lit _ => 1
  | .nil => 1
  | .ptr d => uptoBulk d + 1
  | .slice elems spare => uptoBulkAll elems + uptoBulkAll spare + 1
  | .agg parts => uptoBulkAll parts + 1
  | .iface _ d => uptoBulk d + 1
  | .map entries => uptoBulkEntries entries + 1
  | .held _ => 1
def uptoBulkAll {H : Type} : List (DataW H) → Nat
  | [] => 0
  | d :: r => uptoBulk d + uptoBulkAll r
def uptoBulkEntries {H : Type} : List (Lit × DataW H) → Nat
  | [] => 0
  | x :: r => uptoBulkEntry x + uptoBulkEntries r
def uptoBulkEntry {H : Type} : Lit × DataW H → Nat
  | (.string bytes, d) => bytes.length + uptoBulk d + 1
  | (_, d) => uptoBulk d + 1
 end
def uptoSmall : (H : Type) → List (DataW H) → Bool := fun _ ds => decide (uptoBulkAll ds ≤ 1048576)
def OpenSpec.upto (s : _root_.Go.ChangeSpec) : _root_.Go.OpenSpec := { _root_.Go.OpenSpec.ofChange s with cond := some uptoSmall }

/-- 'n010_144.FnUnquotedWordBytesSpec', WHERE WHAT IT READS IS OF BULK AT MOST 1048576: true; the input reads as it did. -/
def fnUnquotedWordBytesSpecUptoRow : OpenClaim := { program := "ytdmmpgeaendjpaa", sum := "caae2838c8b61eb6c9365c544be4f1ec77a98bc6441d5730ea1f0f78bcbdfdd4", func := "mvdan.cc/sh/v3/n010_144.FnUnquotedWordBytesSpec", spec := "fnUnquotedWordBytesSpec", unfollowed := true, recurses := true, apart := false, narrowed := true }
def FnUnquotedWordBytesSpecUptoSaid : Prop := fnUnquotedWordBytesSpecUptoRow.holds Try.pinned (OpenSpec.upto fnUnquotedWordBytesSpecSpec)

/-- 'n010_144.FnUnquotedWordPartSpec', WHERE WHAT IT READS IS OF BULK AT MOST 1048576: true; the input reads as it did. -/
def fnUnquotedWordPartSpecUptoRow : OpenClaim := { program := "ytdmmpgeaendjpaa", sum := "caae2838c8b61eb6c9365c544be4f1ec77a98bc6441d5730ea1f0f78bcbdfdd4", func := "mvdan.cc/sh/v3/n010_144.FnUnquotedWordPartSpec", spec := "fnUnquotedWordPartSpec", unfollowed := true, recurses := true, apart := false, narrowed := true }
def FnUnquotedWordPartSpecUptoSaid : Prop := fnUnquotedWordPartSpecUptoRow.holds Try.pinned (OpenSpec.upto fnUnquotedWordPartSpecSpec)

/-- 'n010_144.FnPostNestedScript', WHERE WHAT IT READS IS OF BULK AT MOST 1048576: true; the input reads as it did. -/
def fnPostNestedScriptUptoRow : OpenClaim := { program := "ytdmmpgeaendjpaa", sum := "caae2838c8b61eb6c9365c544be4f1ec77a98bc6441d5730ea1f0f78bcbdfdd4", func := "mvdan.cc/sh/v3/n010_144.FnPostNestedScript", spec := "fnPostNestedScript", unfollowed := true, recurses := true, apart := false, narrowed := true }
def FnPostNestedScriptUptoSaid : Prop := fnPostNestedScriptUptoRow.holds Try.pinned (OpenSpec.upto fnPostNestedScriptSpec)

end Rows
end Go.Proofs.Ytdmmpgeaendjpaa
