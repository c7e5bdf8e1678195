/- Maps whose keys are interface values that hold pointers: look-up, store, length. Conditions: the keys' blocks lie in memory, unmarked. -/
import Derived.Test.YtgeaokgcmhkoaaaKit
import Derived.Handy
import Derived.LaidEqlPtr
import Derived.MapKept
import Derived.Maps.OwnOps
import Derived.Maps.OwnSet
namespace Go.Proofs.Ytgeaokgcmhkoaaa
open Go.RowKit
set_option linter.unusedVariables false
set_option linter.unusedSimpArgs false

section
variable {P : Program} (w : World)
/-- a type of pointers that may be a key -/
def PtrT (P : Program) (T : TypeId) : Prop := ∃ e i j, P.underlying T = some (.pointer e) ∧ P.info? T = some i ∧ i.comparable = true ∧ P.info? e = some j ∧ j.size ≠ 0
theorem ptr_of {P : Program} {T e : TypeId} (h1 : P.underlying T = some (.pointer e)) (h2 : (P.info? T).map (·.comparable) = some true) (h3 : (P.info? e).map (fun j => decide (j.size ≠ 0)) = some true) : PtrT P T := by
  obtain ⟨i, hi, h2⟩ := Option.map_eq_some_iff.1 h2
  obtain ⟨j, hj, h3⟩ := Option.map_eq_some_iff.1 h3
  exact ⟨e, i, j, h1, hi, h2, hj, by simpa using h3⟩
theorem run_ck {k T : TypeId} {ms : Array (String × TypeId)} {p : Option Addr} (em : Bool) (hk : P.underlying k = some (.interface ms)) (hT : PtrT P T) (n : Nat) : (Instr.checkKey em (n + 1 + 1) k (.iface T (.pointer p))).run P w = .ok () w := by
  obtain ⟨e, i, j, h1, h2, h3, _, _⟩ := hT
  simp [Instr.checkKey, run_underlying hk, run_underlying h1, typeInfo, h2, h3, Result.andThen]
theorem run_lookup_empty {t k e T : TypeId} {ms : Array (String × TypeId)} {p : Option Addr} {c clock : Nat} {z : Value} (ht : P.underlying t = some (.map k e)) (hk : P.underlying k = some (.interface ms)) (hT : PtrT P T)
    (hb : w.heap[c]? = some (.map #[] clock)) (hz : (zeroValue e).run P w = .ok z w) : (Instr.lookup t (.map (some c)) (.iface T (.pointer p)) false).run P w = .ok z w := by
  have h1 := run_ck (P := P) w true (p := p) hk hT 9998
  simp [Instr.lookup, run_underlying ht, run_underlying hk, MapKept.run_getObj_map hb, h1, Instr.findKey, Instr.findNow, hz, Result.andThen]
end
theorem wpList_lookup_empty {P : Program} (w : World) {ops : Array Oper} {rest : List Oper} {o : Oper} {a : Act} {Q : Exit → Act → World → Prop}
    (hg : o.guard = none) (m x : Operand) (t : TypeId) (hop : o.op = Op.lookup t m x false) {k e T : TypeId} {ms : Array (String × TypeId)} {p : Option Addr} {c clock : Nat} {z : Value}
    (ht : P.underlying t = some (.map k e)) (hk : P.underlying k = some (.interface ms)) (hT : PtrT P T) (hm : a.eval m = .map (some c)) (hb : w.heap[c]? = some (.map #[] clock)) (hx : a.eval x = .iface T (.pointer p)) (hz : (zeroValue e).run P w = .ok z w)
    (hK : wpList P ops Q rest (a.put o.dst z) w) : wpList P ops Q (o :: rest) a w := by
  refine wpList_plain hg fun K' hK' => ?_
  have hrun := run_lookup_empty (P := P) w (p := p) ht hk hT hb hz
  unfold Oper.wp
  simp [execOp, hop, hm, hx, hrun, Result.andThen]
  exact hK' _ _ hK
end Go.Proofs.Ytgeaokgcmhkoaaa
