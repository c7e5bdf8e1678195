/- What bits, in and slices.Collect do. Conditions: none. -/
import Derived.Test.YthdbfebfgomnpaaFmtBits
import Derived.Handy
import Derived.Test.YthdbfebfgomnpaaFmtKit
namespace Go.Proofs.YthdbfebfgomnpaaFmt
open Go.RowKit Go.Shelf
set_option linter.unusedVariables false

theorem bits_any (L : Int) (w : World) :
    Calls Tryf.prog 17 #[.int .i64 L] w fun e w' => e = .returned (.func (.func 19) #[] #[.pointer (some ⟨w.heap.size, 0, none⟩)]) ∧ w' = w.alloc (.cells #[.int .i64 L] 29) := by
  go_enter Tryf.func17, Tryf.ntmps17
  go_wp2
  go_ret
  exact ⟨rfl, rfl⟩

theorem coll_any (L : Int) (Bl : Nat) (w : World) (hBl : Bl < w.heap.size) (hc : w.cell? ⟨Bl, 0, none⟩ = some (.int .i64 L)) :
    Calls Tryf.prog 16 #[.func (.func 19) #[] #[.pointer (some ⟨Bl, 0, none⟩)]] w fun e w' => ∃ v, e = .returned v ∧ w'.ownsRow w.heap.size 29 1 v (bitsTo L 5).length ((bitsTo L 5).map encZ) ∧ Below w.heap.size w w' := by
  have hseq : GivesJ Fence.wide (3 - 1 - 1) Tryf.prog 19 #[.pointer (some ⟨Bl, 0, none⟩)] encZ (fun ss => ss = bitsTo L 5) 6 w := fun l J W hW hA hY hB h0 =>
    bits1_in Fence.wide (3 - 1 - 1) trivial rfl (by omega) l Bl L J hY (fun ss W1 hJ => ((hB ss W1 hJ).cell (p := ⟨Bl, 0, none⟩) hBl).trans hc) W h0
  have key := collect_j Tryf.laysC Fence.wide 3 trivial trivial rfl (by omega) 19 #[.pointer (some ⟨Bl, 0, none⟩)] trivial (enters_of Tryf.func19 (by kernel_rfl) rfl) (fun ss => ss = bitsTo L 5) 6 (by decide) (by decide) w hseq
  refine (callsIn_wide.1 key).mono ?_
  rintro e w' ⟨v, ss, rfl, rfl, hr, -, hb⟩
  exact ⟨v, rfl, hr, hb⟩

theorem in_any (a b : Int) (w : World) :
    Calls Tryf.prog 13 #[.int .i64 a, .int .i64 b] w fun e w' => e = .returned (.bool (Go.bits .and .i64 a b == a)) ∧ w' = w := by
  go_enter Tryf.func13, Tryf.ntmps13
  go_wp2
  all_goals
    go_ret
    exact ⟨rfl, rfl⟩
end Go.Proofs.YthdbfebfgomnpaaFmt
