/-
  No cell of these rows narrows 'for every input' (looked for: loops, veiled, ifaces, maps, wideKeys, modest, calm, conditions, laid).
  DERIVED. THE GIVEN ROWS OF THIS SEAT. 1 by the template 'for every input the law returns true; each argument reads behind the call as it read before'; 0 by the template 'total and deterministic' (their statements: YthdbfebfgomnpaaFmtTotals.lean).
  GIVEN WITH THE SEED: the statements are not yours to turn. If you find one false, say at which input.
  Laid BY PROGRAM, IN A SANDBOX (cutbox-rows.mjs): the forced cells as the released guide's own fill.sh prints them over the translation df481655090cd027… (all of the seat's roots in one cut). By AI agents, Wed Nov 11 2026. No macro, syntax, notation, axiom, sorry.
-/
import Derived.Test.YthdbfebfgomnpaaFmtChecked
import GoSem.Claim
import GoSem.ClaimJoined
import GoSem.ClaimMapViews
import Derived.JoinedTies
import Derived.KernelRfl
namespace Go.Proofs.YthdbfebfgomnpaaFmt
/- THE CELL 'sum', in the pinned program and in every row, IS THE sha256 OF THE DUMP (.gsa) THAT YthdbfebfgomnpaaFmtProg.lean LOADS. Nothing in Lean hashes anything: it is a label: what it is worth is what the hold of that sum in a sandbox is worth. -/
noncomputable def Tryf.pinned : Pinned := { name := "ythdbfebfgomnpaafmt", sum := "df481655090cd027d91fa7d08ac674b443a8731bae0cfa39792aca37c685225b", checked := Tryf.checked }
namespace Rows
def none {H : Type} : Left H := { results := [], args := [] }

/-- 'n010_112.FnCheckLangExact': WHATEVER THE INPUT: true; the input reads as it did. -/
def fnCheckLangExactSpec : ChangeSpec := { name := "fnCheckLangExact", fn := fun _ => fun
  | [d1, d2, d3, d4, d5] => { results := [.lit (.bool true)], args := [d1, d2, d3, d4, d5] }
  | _ => none }
def fnCheckLangExactRow : OpenClaim := { program := "ythdbfebfgomnpaafmt", sum := "df481655090cd027d91fa7d08ac674b443a8731bae0cfa39792aca37c685225b", func := "mvdan.cc/sh/v3/n010_112.FnCheckLangExact", spec := "fnCheckLangExact", stops := ["fmt.Sprintf, its operands' methods called"], inPlace := ["fmt.Sprintf"], unfollowed := true, recurses := true, apart := false }
/-- NO THEOREM (fmt's text is open here; it may be false): for the released tool's asking of the row's closed facts alone. THE STATEMENT IS 'FnCheckLangExactToldSaid' (YthdbfebfgomnpaaFmtCards.lean). -/
def FnCheckLangExactFormAsk : Prop := fnCheckLangExactRow.holds Tryf.pinned (OpenSpec.ofChange fnCheckLangExactSpec)

/-- ITS FALSE NEIGHBOUR: 'it returns false'. Refute it at one input. -/
def fnCheckLangExactWrong : ChangeSpec := { name := "fnCheckLangExact", fn := fun _ => fun
  | [d1, d2, d3, d4, d5] => { results := [.lit (.bool false)], args := [d1, d2, d3, d4, d5] }
  | _ => none }
def FnCheckLangExactWrongFormAsk : Prop := fnCheckLangExactRow.holds Tryf.pinned (OpenSpec.ofChange fnCheckLangExactWrong)

end Rows
end Go.Proofs.YthdbfebfgomnpaaFmt
