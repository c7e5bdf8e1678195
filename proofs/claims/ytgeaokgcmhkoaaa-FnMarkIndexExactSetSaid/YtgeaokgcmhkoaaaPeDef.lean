/- Parameter expansions: what it is to be simple. Conditions: the cells. -/
import Derived.Test.YtgeaokgcmhkoaaaValid
namespace Go.Proofs.Ytgeaokgcmhkoaaa
open Go.RowKit
set_option linter.unusedVariables false
set_option linter.unusedSimpArgs false

/-- the method answers t, now and in every world that only grew -/
def SimpleIs (w : World) (b : Nat) (t : Bool) : Prop := ∀ W, Below w.heap.size w W → Calls Try.prog 28 #[.pointer (some ⟨b, 0, none⟩)] W fun e w' => e = .returned (.bool t) ∧ Below W.heap.size W w'
theorem SimpleIs.below {w U : World} {b : Nat} {t : Bool} (h : SimpleIs w b t) (hb : Below w.heap.size w U) : SimpleIs U b t := fun W hW => h W (below_next hb hW)
end Go.Proofs.Ytgeaokgcmhkoaaa
