/- Rows of the call's own: copies of slices of integers. Conditions: the source's cells. -/
import Derived.Test.YtgeaokgcmhkoaaaChecked
import Derived.Test.YtgeaokgcmhkoaaaKit
import Derived.Handy
import Derived.Outline
import Derived.OwnWalk
import Derived.WalkSpells
import Derived.LoopTactic
import Derived.Laws.OwnMore
namespace Go.Proofs.Ytgeaokgcmhkoaaa
open Go.RowKit
set_option linter.unusedVariables false

theorem block_of_add (a : Addr) (n : Nat) : (a.add n).block = a.block := by unfold Addr.add; split <;> rfl
/-- the copy after k rounds -/
def partRow (K : IntKind) (zs : List Int) (n k : Nat) : List Value := (zs.take k).map (Value.int K) ++ List.replicate (n - k) (.int K 0)
theorem partRow_zero (K : IntKind) (zs : List Int) (n : Nat) : partRow K zs n 0 = List.replicate n (.int K 0) := by simp [partRow]
theorem partRow_all (K : IntKind) (zs : List Int) (n : Nat) : partRow K zs n n = (zs.take n).map (Value.int K) := by simp [partRow]
theorem partRow_set (K : IntKind) (zs : List Int) (n k : Nat) (hk : k < n) (hz : k < zs.length) : (partRow K zs n k).set k (.int K (zs.getD k 0)) = partRow K zs n (k + 1) := by
  unfold partRow
  have hl : ((zs.take k).map (Value.int K)).length = k := by simp; omega
  rw [List.set_append_right _ _ (by omega), hl, Nat.sub_self]
  have e : List.replicate (n - k) (Value.int K 0) = .int K 0 :: List.replicate (n - (k + 1)) (.int K 0) := by
    rw [show n - k = (n - (k + 1)) + 1 by omega, List.replicate_succ]
  have hg : zs.getD k 0 = zs[k] := by simp [List.getD, hz]
  rw [e, List.set_cons_zero, List.take_succ_eq_append_getElem hz, hg, List.map_append]
  simp only [List.map_cons, List.map_nil, List.append_assoc, List.cons_append, List.nil_append]
theorem partRow_at (K : IntKind) (zs : List Int) (n k : Nat) (hk : k < n) (hz : k ≤ zs.length) : (partRow K zs n k)[k]? = some (.int K 0) := by
  unfold partRow
  have hl : ((zs.take k).map (Value.int K)).length = k := by simp; omega
  rw [List.getElem?_append_right (by omega), hl, Nat.sub_self, show n - k = (n - (k + 1)) + 1 by omega, List.replicate_succ]
  rfl
theorem made_cells (z : Value) (n : Nat) (h : z.cells = #[z]) : (madeCells z.cells (n * 1)).toList = List.replicate n z := by
  rw [h, Nat.mul_one, toList_madeCells_one]

/-- a slice that reads as f: nil let in -/
def RowOf (K : IntKind) (W : World) (A : Option Addr) (n : Nat) (f : Nat → Int) : Prop := ∀ i, i < n → ∃ g, A = some ⟨g, 0, none⟩ ∧ W.cell? ⟨g, i, none⟩ = some (.int K (f i))
theorem RowOf.below {K : IntKind} {W w : World} {A : Option Addr} {n : Nat} {f : Nat → Int} (h : RowOf K W A n f) (hb : Below W.heap.size W w) : RowOf K w A n f := fun i hi => by
  obtain ⟨g, e, hc⟩ := h i hi
  exact ⟨g, e, by rw [hb.cell (World.block_lt_of_cell? W _ hc)]; exact hc⟩
end Go.Proofs.Ytgeaokgcmhkoaaa
