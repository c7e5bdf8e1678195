/- What asks the parser for its error, and what leaves one. Conditions: the parser's cells. -/
import Derived.Test.YthdbfebfgomnpaaFmtPar
namespace Go.Proofs.YthdbfebfgomnpaaFmt
open Go.RowKit
set_option linter.unusedVariables false
set_option linter.unusedSimpArgs false

set_option maxHeartbeats 1000000 in
theorem ein_nil (P f : Nat) (L tok : Int) (w : World) (h : LP w P f L .nilIface tok) : Calls Tryf.prog 7 #[.pointer (some ⟨P, 0, none⟩)] w fun e w' => e = .returned (.bool true) ∧ w' = w := by
  have c7 := h.c7
  have z := World.block_lt_of_cell? _ _ c7
  simp only at z
  go_enter Tryf.func7, Tryf.ntmps7
  go_wp2_with fail
  go_ret
  exact ⟨rfl, rfl⟩
set_option maxHeartbeats 1000000 in
theorem eof_any (P f : Nat) (L tok : Int) (e0 : Value) (w : World) (h : LP w P f L e0 tok) (b : Bool) (hb : (tok == 1) = b) : Calls Tryf.prog 8 #[.pointer (some ⟨P, 0, none⟩)] w fun e w' => e = .returned (.bool b) ∧ w' = w := by
  have c10 := h.c10
  have z := World.block_lt_of_cell? _ _ c10
  simp only at z
  go_enter Tryf.func8, Tryf.ntmps8
  go_wp2_with fail
  go_ret
  exact ⟨rfl, rfl⟩
/-- a LangError of the parser's -/
def leV (o lc : Int) (t : ByteArray) (v : Value) (L : Int) : Value := .agg #[.string ⟨#[]⟩, .int .u32 o, .int .u32 lc, .string t, v, .int .i64 L]
theorem as_le (v : Value) (w : World) : (Instr.typeAssert (.iface 34 v) 50 34 true).run Tryf.prog w = .ok (.tuple #[v, .bool true]) w := by kernel_rfl
set_option maxRecDepth 100000 in
set_option maxHeartbeats 1000000 in
theorem lerr_any (P f : Nat) (L tok : Int) (o lc : Int) (t : ByteArray) (va : Option Addr) (vn vc : Nat) (w : World) (h : LP w P f L (.iface 34 (leV o lc t (.slice va vn vc) L)) tok) : Calls Tryf.prog 9 #[.pointer (some ⟨P, 0, none⟩)] w fun e w' => e = .returned (.tuple #[leV o lc t (.slice va vn vc) L, .bool true]) ∧ Below w.heap.size w w' := by
  have c7 := h.c7
  have asl := as_le
  unfold leV at *
  have z := World.block_lt_of_cell? _ _ c7
  simp only at z
  go_enter Tryf.func9, Tryf.ntmps9
  go_wp2_with fail
  go_returns
  exact ⟨rfl, by go_grown⟩
set_option maxHeartbeats 1000000 in
theorem ep_any (P f : Nat) (L : Int) (a : Array Value) (w : World) (h : LP w P f L .nilIface 0) : Calls Tryf.prog 14 #[.pointer (some ⟨P, 0, none⟩), .iface 34 (.agg a)] w fun e w' => e = .returned (.tuple #[]) ∧ LP w' P f L (.iface 34 (.agg a)) 1 ∧ Below P w w' ∧ w.grownBy w' (some P) := by
  obtain ⟨c1, ⟨z2, c2⟩, ⟨z3, c3⟩, ⟨z4, c4⟩, c5, c7, c10, c20, n0, fz, ne⟩ := h
  have z := World.block_lt_of_cell? _ _ c7
  simp only at z
  go_enter Tryf.func14, Tryf.ntmps14
  go_wp2_with fail
  go_end0
  refine ⟨rfl, ⟨by simp [go_sem, c1], ⟨_, by simp [go_sem, c2]; rfl⟩, ⟨_, by simp [go_sem, c3]; rfl⟩, ⟨_, by simp [go_sem, c4]; rfl⟩, by simp [go_sem, c5], by simp [go_sem, c7], by simp [go_sem, c10], by simp [go_sem, c20], ?_, fun j => by simp [go_sem, fz], ne⟩, ?_, ?_⟩
  · simp [go_sem, n0, show P ≠ f by omega]
  · exact (((((Below.refl P w).setCell (p := ⟨P, 7, none⟩) (Nat.le_refl _) _).setCell (p := ⟨P, 2, none⟩) (Nat.le_refl _) _).setCell (p := ⟨P, 3, none⟩) (Nat.le_refl _) _).setCell (p := ⟨P, 4, none⟩) (Nat.le_refl _) _).setCell (p := ⟨P, 10, none⟩) (Nat.le_refl _) _
  · refine ⟨rfl, rfl, rfl, by simp [World.setCell], fun k _ hk => ?_⟩
    have e : ∀ (W : World) (j : Nat) (v : Value), (W.setCell ⟨P, j, none⟩ v).heap[k]? = W.heap[k]? := fun W j v => Below.heap_setCell W ⟨P, j, none⟩ v k (fun e => hk (by simp [e]))
    rw [e, e, e, e, e]
end Go.Proofs.YthdbfebfgomnpaaFmt
