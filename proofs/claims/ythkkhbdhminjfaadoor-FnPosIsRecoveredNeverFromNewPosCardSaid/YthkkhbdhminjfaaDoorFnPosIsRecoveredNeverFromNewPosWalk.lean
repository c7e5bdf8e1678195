/- The walk of FnPosIsRecoveredNeverFromNewPos: the Go text returns true. Conditions: the listed variable holds what the program's text lays. -/
import Derived.Test.YthkkhbdhminjfaaDoorRows
import Derived.Test.YthkkhbdhminjfaaDoorPos
import Derived.OpenShut
import Derived.LaidMore
import Derived.LaidLaws
import Derived.Outline
namespace Go.Proofs.YthkkhbdhminjfaaDoor.fnPosIsRecoveredNeverFromNewPos
open Go.RowKit Go.ChangeShapes Go.WideShapes
set_option linter.unusedVariables false

theorem of_laid {W : World} (h : laidMetH Tryd.prog Rows.fnPosIsRecoveredNeverFromNewPosRow.laid W) : W.cell? ⟨0, 0, none⟩ = some (.int .u32 4294967285) ∧ W.cell? ⟨0, 1, none⟩ = some (.int .u32 0) := by
  rw [MakeChecks.laidMetH_plain _ _ _ (by kernel_rfl)] at h
  obtain ⟨ps, ⟨g0, t0, cs0, f0, p0, q0, hg0, ht0, hv0, hd0, _, _⟩, _, _⟩ := h
  obtain rfl : g0 = 0 := Option.some.inj (hg0.symm.trans (by kernel_rfl))
  obtain rfl : t0 = 25 := Option.some.inj (ht0.symm.trans (by kernel_rfl))
  obtain ⟨y0, y1, m, hx, hl, h0, h1⟩ := trod_struct2 Tryd.underlying25 hd0
  have c23 : Tryd.prog.cellsOf 23 = 1 := by kernel_rfl
  have c25 : Tryd.prog.cellsOf 25 = 2 := by kernel_rfl
  obtain ⟨k0, e0, rfl, _⟩ := DataW.trod_int Tryd.underlying23 h0
  obtain ⟨k1, e1, rfl, _⟩ := DataW.trod_int Tryd.underlying23 h1
  rw [c25] at hl
  rw [c23] at e0 e1
  have v0 := World.var?_cell hg0 hv0 0
  have v1 := World.var?_cell hg0 hv0 1
  obtain ⟨l⟩ := cs0
  match l, hl, e0, e1, v0, v1 with
  | [x, y], _, e0, e1, v0, v1 =>
    simp at e0 e1
    subst e0 e1
    simp [Rows.laid_mvdan_cc_sh_v3_syntax_recoveredPos] at hx
    obtain ⟨⟨rfl, rfl⟩, _⟩ := hx
    exact ⟨by simpa using v0, by simpa using v1⟩

theorem var_lt {W : World} {v : Value} (h : W.cell? ⟨0, 0, none⟩ = some v) : 0 < W.heap.size := by
  rcases Nat.lt_or_ge 0 W.heap.size with hlt | hge
  · exact hlt
  · have hn : W.heap[(0 : Nat)]? = none := Array.getElem?_eq_none hge
    simp [World.cell?, hn] at h

set_option maxHeartbeats 1000000 in
theorem rec_any (o lc : Int) (w : World) (ho : (o == 4294967285) = false) (h0 : w.cell? ⟨0, 0, none⟩ = some (.int .u32 4294967285)) (h1 : w.cell? ⟨0, 1, none⟩ = some (.int .u32 0)) :
    Calls Tryd.prog 6 #[.agg #[.int .u32 o, .int .u32 lc]] w fun e w' => e = .returned (.bool false) ∧ Below w.heap.size w w' := by
  have hz := var_lt h0
  go_enter Tryd.func6, Tryd.ntmps6
  go_wp2
  go_ret
  exact ⟨rfl, by go_grown⟩

set_option maxHeartbeats 1000000 in
theorem walk (a0 a1 a2 : Int) (w : World) (w0 : (Lit.int .u64 a0).wf = true) (w1 : (Lit.int .u64 a1).wf = true) (w2 : (Lit.int .u64 a2).wf = true) (hL : laidMetH Tryd.prog Rows.fnPosIsRecoveredNeverFromNewPosRow.laid w) :
    Calls Tryd.prog 3 #[.int .u64 a0, .int .u64 a1, .int .u64 a2] w fun e w' => e = .returned (.bool true) ∧ Below w.heap.size w w' := by
  have b0 := bounds_u64 w0
  have b1 := bounds_u64 w1
  have b2 := bounds_u64 w2
  obtain ⟨g0, g1⟩ := of_laid hL
  have hz := var_lt g0
  have i0 := offCap_in a0 b0.1
  have n0 : (offCap a0 == 4294967285) = false := by simp; omega
  have n1 : ((0 : Int) == 4294967285) = false := by decide
  clear w0 w1 w2 hL
  go_enter Tryd.func3, Tryd.ntmps3
  go_wp2_with fail
  refine (newPos_any _ _ _ _ b0 b1 b2).mono ?_
  rintro e w1 ⟨rfl, hb1⟩
  have hB1 : Below w.heap.size w w1 := below_next (by go_grown) hb1
  have k0 : w1.cell? ⟨0, 0, none⟩ = some (.int .u32 4294967285) := by rw [hB1.cell (p := ⟨0, 0, none⟩) hz]; exact g0
  have k1 : w1.cell? ⟨0, 1, none⟩ = some (.int .u32 0) := by rw [hB1.cell (p := ⟨0, 1, none⟩) hz]; exact g1
  obtain ⟨m0, m1, -, -, -⟩ := slot_after hb1
  have hz1 : w.heap.size < w1.heap.size := by have := hb1.size; simp at this; omega
  clear hb1
  go_wp2_with fail
  refine (rec_any _ _ _ n0 k0 k1).mono ?_
  rintro e w2 ⟨rfl, hb2⟩
  have hB2 : Below w.heap.size w w2 := below_next hB1 hb2
  have k0 : w2.cell? ⟨0, 0, none⟩ = some (.int .u32 4294967285) := by rw [hB2.cell (p := ⟨0, 0, none⟩) hz]; exact g0
  have k1 : w2.cell? ⟨0, 1, none⟩ = some (.int .u32 0) := by rw [hB2.cell (p := ⟨0, 1, none⟩) hz]; exact g1
  have m0 : w2.cell? ⟨w.heap.size, 0, none⟩ = some (.int .u32 0) := by rw [hb2.cell (p := ⟨w.heap.size, 0, none⟩) hz1]; exact m0
  have m1 : w2.cell? ⟨w.heap.size, 1, none⟩ = some (.int .u32 0) := by rw [hb2.cell (p := ⟨w.heap.size, 1, none⟩) hz1]; exact m1
  clear hb2
  go_wp2_with fail
  refine (rec_any _ _ _ n1 k0 k1).mono ?_
  rintro e w3 ⟨rfl, hb3⟩
  have hB3 : Below w.heap.size w w3 := below_next hB2 hb3
  go_wp2_with fail
  go_ret
  exact ⟨rfl, hB3⟩
end Go.Proofs.YthkkhbdhminjfaaDoor.fnPosIsRecoveredNeverFromNewPos
