/- A parser of one variant, and its error. Conditions: the parser's cells. -/
import Derived.Test.YthdbfebfgomnpaaFmtLang
import Derived.Deep.QuietTactic
import Derived.BigQuiet
import Derived.Deep.RegionHeld3
import Derived.Laws.Tables
namespace Go.Proofs.YthdbfebfgomnpaaFmt
open Go.RowKit
set_option linter.unusedVariables false
set_option linter.unusedSimpArgs false

/-- a struct built of two given parts -/
theorem wpList_build2 {P : Program} (w : World) {ops : Array Oper} {rest : List Oper} {o : Oper} {a : Act} {Q : Exit → Act → World → Prop}
    (hg : o.guard = none) (t : TypeId) (i j : Nat) (x y : Operand) (hop : o.op = Op.build t #[(i, x), (j, y)]) (C : Array Value) (hC : P.built t [(i, a.eval x), (j, a.eval y)] = some C)
    (hK : wpList P ops Q rest (a.put o.dst (.agg C)) w) : wpList P ops Q (o :: rest) a w := by
  refine wpList_plain hg fun K hK' => ?_
  have hr := run_build (P := P) w t #[(i, a.eval x), (j, a.eval y)] C hC
  unfold Oper.wp
  simp only [execOp, hop]
  simp [hr, Result.andThen]
  exact hK' _ _ hK
set_option maxRecDepth 1000000 in
theorem built_lp (L : Int) (f : Nat) : ∃ C, Tryf.prog.built 60 [(19, .int .i64 L), (5, .pointer (some ⟨f, 0, none⟩))] = some C ∧ C[1]? = some (.slice none 0 0) ∧ C[2]? = some (.int .u64 0) ∧ C[3]? = some (.int .i32 0) ∧ C[4]? = some (.int .i64 0) ∧ C[5]? = some (.pointer (some ⟨f, 0, none⟩)) ∧ C[7]? = some .nilIface ∧ C[10]? = some (.int .u32 0) ∧ C[20]? = some (.int .i64 L) := by
  have h0 : (Tryf.prog.built 60 [(19, .int .i64 L), (5, .pointer (some ⟨f, 0, none⟩))]).isSome = true := by kernel_rfl
  have h1 : (Tryf.prog.built 60 [(19, .int .i64 L), (5, .pointer (some ⟨f, 0, none⟩))]).bind (·[1]?) = some (.slice none 0 0) := by kernel_rfl
  have h2 : (Tryf.prog.built 60 [(19, .int .i64 L), (5, .pointer (some ⟨f, 0, none⟩))]).bind (·[2]?) = some (.int .u64 0) := by kernel_rfl
  have h3 : (Tryf.prog.built 60 [(19, .int .i64 L), (5, .pointer (some ⟨f, 0, none⟩))]).bind (·[3]?) = some (.int .i32 0) := by kernel_rfl
  have h4 : (Tryf.prog.built 60 [(19, .int .i64 L), (5, .pointer (some ⟨f, 0, none⟩))]).bind (·[4]?) = some (.int .i64 0) := by kernel_rfl
  have h5 : (Tryf.prog.built 60 [(19, .int .i64 L), (5, .pointer (some ⟨f, 0, none⟩))]).bind (·[5]?) = some (.pointer (some ⟨f, 0, none⟩)) := by kernel_rfl
  have h7 : (Tryf.prog.built 60 [(19, .int .i64 L), (5, .pointer (some ⟨f, 0, none⟩))]).bind (·[7]?) = some .nilIface := by kernel_rfl
  have h10 : (Tryf.prog.built 60 [(19, .int .i64 L), (5, .pointer (some ⟨f, 0, none⟩))]).bind (·[10]?) = some (.int .u32 0) := by kernel_rfl
  have h20 : (Tryf.prog.built 60 [(19, .int .i64 L), (5, .pointer (some ⟨f, 0, none⟩))]).bind (·[20]?) = some (.int .i64 L) := by kernel_rfl
  obtain ⟨C, hC⟩ := Option.isSome_iff_exists.1 h0
  rw [hC] at h1 h2 h3 h4 h5 h7 h10 h20
  exact ⟨C, hC, h1, h2, h3, h4, h5, h7, h10, h20⟩

/-- the parser at block P, its file at block f -/
structure LP (w : World) (P f : Nat) (L : Int) (err : Value) (tok : Int) : Prop where
  c1 : w.cell? ⟨P, 1, none⟩ = some (.slice none 0 0)
  c2 : ∃ z, w.cell? ⟨P, 2, none⟩ = some (.int .u64 z)
  c3 : ∃ z, w.cell? ⟨P, 3, none⟩ = some (.int .i32 z)
  c4 : ∃ z, w.cell? ⟨P, 4, none⟩ = some (.int .i64 z)
  c5 : w.cell? ⟨P, 5, none⟩ = some (.pointer (some ⟨f, 0, none⟩))
  c7 : w.cell? ⟨P, 7, none⟩ = some err
  c10 : w.cell? ⟨P, 10, none⟩ = some (.int .u32 tok)
  c20 : w.cell? ⟨P, 20, none⟩ = some (.int .i64 L)
  n0 : w.cell? ⟨f, 0, none⟩ = some (.string ⟨#[]⟩)
  fz : ∀ j, w.frozen? ⟨P, j, none⟩ = false
  ne : f < P
theorem LP.below {w w' : World} {P f : Nat} {L : Int} {err : Value} {tok : Int} (h : LP w P f L err tok) {B : Nat} (hb : Below B w w') (hB : P < B) : LP w' P f L err tok := by
  have hf := h.ne
  obtain ⟨z2, e2⟩ := h.c2
  obtain ⟨z3, e3⟩ := h.c3
  obtain ⟨z4, e4⟩ := h.c4
  have k : ∀ j, w'.cell? ⟨P, j, none⟩ = w.cell? ⟨P, j, none⟩ := fun j => hb.cell (p := ⟨P, j, none⟩) hB
  exact ⟨(k 1).trans h.c1, ⟨z2, (k 2).trans e2⟩, ⟨z3, (k 3).trans e3⟩, ⟨z4, (k 4).trans e4⟩, (k 5).trans h.c5, (k 7).trans h.c7, (k 10).trans h.c10, (k 20).trans h.c20, (hb.cell (p := ⟨f, 0, none⟩) (by simp; omega)).trans h.n0, fun j => (hb.frozen (p := ⟨P, j, none⟩) hB).trans (h.fz j), hf⟩

set_option maxRecDepth 1000000 in
set_option maxHeartbeats 1000000 in
theorem nlp_any (L : Int) (w : World) :
    Calls Tryf.prog 5 #[.int .i64 L] w fun e w' => e = .returned (.pointer (some ⟨w.heap.size + 1, 0, none⟩)) ∧ LP w' (w.heap.size + 1) w.heap.size L .nilIface 0 ∧ Below w.heap.size w w' ∧ w'.heap.size = w.heap.size + 1 + 1 := by
  obtain ⟨C, hC, h1, h2, h3, h4, h5, h7, h10, h20⟩ := built_lp L w.heap.size
  go_enter Tryf.func5, Tryf.ntmps5
  go_wp2_with (refine wpList_build2 _ rfl 60 19 5 _ _ rfl C hC ?_)
  go_ret
  refine ⟨rfl, ⟨by simp [go_sem, h1], ⟨_, by simp [go_sem, h2]; rfl⟩, ⟨_, by simp [go_sem, h3]; rfl⟩, ⟨_, by simp [go_sem, h4]; rfl⟩, by simp [go_sem, h5], by simp [go_sem, h7], by simp [go_sem, h10], by simp [go_sem, h20], by simp [go_sem], fun j => by simp [go_sem], by omega⟩, by go_grown, by simp⟩
end Go.Proofs.YthdbfebfgomnpaaFmt
