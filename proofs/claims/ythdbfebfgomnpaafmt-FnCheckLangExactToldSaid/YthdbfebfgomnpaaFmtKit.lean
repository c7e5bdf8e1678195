/- Words for the walks: what a slice argument is, and what a world that only grew keeps. Conditions: none. -/
import Derived.WalkKit
import Derived.Below
import Derived.Lib.Hide
import Derived.Deep.Draws
namespace Go.Proofs.YthdbfebfgomnpaaFmt
open Go.RowKit

/-- a slice of integers that came in: nil, or a row of 'cap' cells -/
def IsRow (k : IntKind) (w : World) (a : Option Addr) (len cap : Nat) (zs : List Int) : Prop :=
  (a = none ∧ len = 0 ∧ cap = 0 ∧ zs = []) ∨
  ∃ x, a = some x ∧ len ≤ cap ∧ cap ≤ maxLen ∧ zs.length = cap ∧ (∀ i, i < zs.length → w.cell? (x.add i) = some (.int k (zs.getD i 0))) ∧ ∀ n ∈ zs, (Lit.int k n).wf = true

/-- a slice of strings that came in: nil, or a row of 'cap' cells -/
def IsStrs (w : World) (a : Option Addr) (len cap : Nat) (ss : List ByteArray) : Prop :=
  (a = none ∧ len = 0 ∧ cap = 0 ∧ ss = []) ∨
  ∃ x, a = some x ∧ len ≤ cap ∧ cap ≤ maxLen ∧ ss.length = cap ∧ (∀ i, i < ss.length → w.cell? (x.add i) = some (.string (ss.getD i ByteArray.empty))) ∧ ∀ s ∈ ss, s.size ≤ maxLen

theorem bcell {W w1 : World} (hb : Below W.heap.size W w1) : (∀ b o, b < W.heap.size → w1.cell? ⟨b, o, none⟩ = W.cell? ⟨b, o, none⟩) ∧ (∀ b o, b < W.heap.size → w1.frozen? ⟨b, o, none⟩ = W.frozen? ⟨b, o, none⟩) :=
  ⟨fun b o h => hb.cell (p := ⟨b, o, none⟩) h, fun b o h => hb.frozen (p := ⟨b, o, none⟩) h⟩
theorem cell_alloc {w : World} {a : Addr} {v : Value} {o : Obj} (h : w.cell? a = some v) : (w.alloc o).cell? a = some v := by
  by_cases hb : a.block = w.heap.size
  · have hn : w.heap[a.block]? = none := by rw [hb]; simp
    simp [World.cell?, hn] at h
  · rw [World.cell?_alloc_old _ _ _ hb]; exact h
theorem below_via {B : Nat} {a b c : World} (h : Below B a b) (k : Below b.heap.size b c) (hB : B ≤ b.heap.size) : Below B a c := h.trans (k.mono hB)
/-- A world U that holds certain cells: a hidden word S for 'U or a world that only grew out of it', with all that the walk asks of it. -/
theorem cells_word (w U : World) (l : List (Addr × Value)) (hB : Below w.heap.size w U) (h : ∀ p ∈ l, U.cell? p.1 = some p.2 ∧ p.1.block < U.heap.size) :
    ∃ S : World → Prop, S U ∧ (∀ W W', S W → Below W.heap.size W W' → S W') ∧ (∀ W, S W → Below w.heap.size w W) ∧ (∀ W, S W → ∀ p ∈ l, W.cell? p.1 = some p.2 ∧ p.1.block < W.heap.size) := by
  refine ⟨fun W => Below w.heap.size w W ∧ Below U.heap.size U W, ⟨hB, Below.refl _ _⟩, ?_, fun W h => h.1, ?_⟩
  · intro W W' hW hb
    exact ⟨hW.1.trans (hb.mono hW.1.size), hW.2.trans (hb.mono hW.2.size)⟩
  · intro W hW p hp
    obtain ⟨h1, h2⟩ := h p hp
    exact ⟨by rw [hW.2.cell h2, h1], Nat.lt_of_lt_of_le h2 hW.2.size⟩
theorem cells_after (w U w1 : World) (hb : Below U.heap.size U w1) (l : List (Addr × Value)) (hB : Below w.heap.size w U) (h : ∀ p ∈ l, U.cell? p.1 = some p.2 ∧ p.1.block < U.heap.size) :
    ∃ S : World → Prop, S w1 ∧ (∀ W W', S W → Below W.heap.size W W' → S W') ∧ (∀ W, S W → Below w.heap.size w W) ∧ (∀ W, S W → ∀ p ∈ l, W.cell? p.1 = some p.2 ∧ p.1.block < W.heap.size) := by
  obtain ⟨S, h1, h2, h3, h4⟩ := cells_word w U l hB h
  exact ⟨S, h2 _ _ h1 hb, h2, h3, h4⟩
/-- the result's own two cells, behind a callee that only made memory -/
theorem slot_after {w w1 : World} {x y : Value} {t : TypeId} (hb1 : Below (w.alloc (.cells #[x, y] t)).heap.size (w.alloc (.cells #[x, y] t)) w1) :
    w1.cell? ⟨w.heap.size, 0, none⟩ = some x ∧ w1.cell? ⟨w.heap.size, 1, none⟩ = some y ∧ w1.frozen? ⟨w.heap.size, 0, none⟩ = false ∧ w1.frozen? ⟨w.heap.size, 1, none⟩ = false ∧ Below w.heap.size w w1 := by
  obtain ⟨hc, hf⟩ := bcell hb1
  refine ⟨?_, ?_, ?_, ?_, ?_⟩
  · rw [hc _ _ (by simp)]; simp [go_sem]
  · rw [hc _ _ (by simp)]; simp [go_sem]
  · rw [hf _ _ (by simp)]; simp [go_sem]
  · rw [hf _ _ (by simp)]; simp [go_sem]
  · exact ((Below.refl _ _).alloc (Nat.le_refl _) _).trans (hb1.mono (by simp))
theorem below_drew (W : World) : Below W.heap.size W W.drew := (Below.refl _ _).drew
theorem below_drewN (W : World) (n : Nat) : Below W.heap.size W (W.drewN n) := ⟨rfl, rfl, rfl, Nat.le_refl _, fun _ _ => rfl⟩
theorem below_next {a b c : World} (h : Below a.heap.size a b) (k : Below b.heap.size b c) : Below a.heap.size a c := h.trans (k.mono h.size)
end Go.Proofs.YthdbfebfgomnpaaFmt
