/- A list that is built in a row of its own by append, one element a round: what is known of its first and of its last element. Conditions: none. -/
import Derived.Test.YtimfajlnlfaffaaOn
namespace Go.Proofs.Ytimfajlnlfaffaa
open Go.RowKit
set_option linter.unusedVariables false

/-- k of n elements of type T stand in row g, made at w0; F holds of the first, L j of element j where it is the last -/
def LPart (T : TypeId) (F : Value → World → Prop) (L : Nat → Value → World → Prop) (n g : Nat) (w0 : World) (k : Nat) (wr : World) : Prop :=
  k ≤ n ∧ Below g w0 wr ∧ g < wr.heap.size ∧ ∃ xs, wr.ownsRow g T 1 (.slice (some ⟨g, 0, none⟩) k n) k xs ∧ xs.length = k ∧ (0 < k → ∃ x, xs[0]? = some x ∧ F x wr) ∧ (0 < k → ∃ x, xs[k - 1]? = some x ∧ L (k - 1) x wr)
theorem LPart.start {T : TypeId} {F : Value → World → Prop} {L : Nat → Value → World → Prop} {n : Nat} {w0 w1 : World} (hown : w1.ownsRow w0.heap.size T 1 (.slice (some ⟨w0.heap.size, 0, none⟩) 0 n) 0 []) (hg : w0.grownBy w1 none) : LPart T F L n w0.heap.size w0 0 w1 :=
  ⟨Nat.zero_le _, (Below.refl _ _).grown hg (Nat.le_refl _) (by simp), (hown.lt w0.heap.size rfl).2, [], hown, rfl, fun h => absurd h (by omega), fun h => absurd h (by omega)⟩
theorem LPart.step {T : TypeId} {F : Value → World → Prop} {L : Nat → Value → World → Prop} {n g k : Nat} {w0 wr U w4 : World} {xs : List Value} {x : Value} (hk : k < n) (hg0 : g = w0.heap.size) (hB : Below g w0 wr) (hgz : g < wr.heap.size) (hlen : xs.length = k)
    (hF : 0 < k → ∃ x, xs[0]? = some x ∧ F x wr) (hU : Below wr.heap.size wr U) (hown : w4.ownsRow g T 1 (.slice (some ⟨g, 0, none⟩) (k + 1) n) (k + 1) (xs ++ [x])) (hg : U.grownBy w4 (some g))
    (hS : ∀ x W W', Keeps (g + 1) W W' → F x W → F x W') (hN : k = 0 → F x w4) (hL : L k x w4) : LPart T F L n g w0 (k + 1) w4 := by
  have z3 := hU.size
  have z4 := hg.size
  refine ⟨by omega, (hB.trans (hU.mono (by omega))).grown hg (by omega) (by intro g' e; injection e; omega), by omega, _, hown, by simp [hlen], fun _ => ?_, fun _ => ⟨x, by rw [Nat.add_sub_cancel, List.getElem?_append_right (by omega), hlen, Nat.sub_self]; rfl, by rw [Nat.add_sub_cancel]; exact hL⟩⟩
  by_cases h : k = 0
  · have hx : xs = [] := List.eq_nil_of_length_eq_zero (by omega)
    subst hx
    exact ⟨x, rfl, hN h⟩
  · obtain ⟨y, h1, h2⟩ := hF (by omega)
    exact ⟨y, by rw [List.getElem?_append_left (by omega)]; exact h1, hS _ _ _ ((Keeps.of_below hU).trans (Keeps.of_grown hg (by omega))) h2⟩
theorem LPart.first {T : TypeId} {F : Value → World → Prop} {L : Nat → Value → World → Prop} {n g k : Nat} {w0 wr : World} (h : LPart T F L n g w0 k wr) (hk : 0 < k) : ∃ x, wr.cell? ⟨g, 0, none⟩ = some x ∧ F x wr := by
  obtain ⟨_, _, _, xs, ho, _, hF, _⟩ := h
  obtain ⟨x, h1, h2⟩ := hF hk
  exact ⟨x, by rw [ho.cellAt 0 (by omega)]; exact h1, h2⟩
theorem LPart.last {T : TypeId} {F : Value → World → Prop} {L : Nat → Value → World → Prop} {n g k : Nat} {w0 wr : World} (h : LPart T F L n g w0 k wr) (hk : 0 < k) : ∃ x, wr.cell? ⟨g, k - 1, none⟩ = some x ∧ L (k - 1) x wr := by
  obtain ⟨_, _, _, xs, ho, _, _, hL⟩ := h
  obtain ⟨x, h1, h2⟩ := hL hk
  exact ⟨x, by rw [ho.cellAt (k - 1) (by omega)]; exact h1, h2⟩
/-- the element's method f returns (o, lc) -/
def ElemOn (P : Program) (f lo : Nat) (o lc : Int) (x : Value) (W : World) : Prop := ∃ b, x = .pointer (some ⟨b, 0, none⟩) ∧ PosOn P f b o lc lo W
theorem ElemOn.keep {P : Program} {f lo : Nat} {o lc : Int} (x : Value) (W W' : World) (hk : Keeps lo W W') (h : ElemOn P f lo o lc x W) : ElemOn P f lo o lc x W' := by
  obtain ⟨b, e, h⟩ := h
  exact ⟨b, e, h.keep hk⟩
end Go.Proofs.Ytimfajlnlfaffaa
