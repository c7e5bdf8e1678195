/- Contracts of plain Pos and End methods: a field is returned, or a field moved by a constant. Conditions: raw fields that fit 32 bits. -/
import Derived.Test.YtfeibikakhmecaaPos
import Derived.Handy
namespace Go.Proofs.Ytfeibikakhmecaa
open Go.RowKit

set_option maxHeartbeats 400000 in
theorem litEnd_at (b : Nat) (o lc : Int) (w : World) (h0 : w.cell? ⟨b, 2, none⟩ = some (.int .u32 o)) (h1 : w.cell? ⟨b, 3, none⟩ = some (.int .u32 lc)) (hb : b < w.heap.size) :
    Calls Try.prog 56 #[.pointer (some ⟨b, 0, none⟩)] w fun e w' => e = .returned (.agg #[.int .u32 o, .int .u32 lc]) ∧ w' = w.alloc (.cells #[.int .u32 o, .int .u32 lc] 29) := by
  go_enter Try.func56, Try.ntmps56
  go_wp2
  go_returns
  exact ⟨rfl, rfl⟩
theorem litEnd_any (b : Nat) (o lc : Int) (w : World) (h0 : w.cell? ⟨b, 2, none⟩ = some (.int .u32 o)) (h1 : w.cell? ⟨b, 3, none⟩ = some (.int .u32 lc)) (hb : b < w.heap.size) :
    Calls Try.prog 56 #[.pointer (some ⟨b, 0, none⟩)] w fun e w' => e = .returned (.agg #[.int .u32 o, .int .u32 lc]) ∧ Below w.heap.size w w' :=
  (litEnd_at b o lc w h0 h1 hb).mono fun _ _ ⟨he, hw⟩ => ⟨he, by rw [hw]; go_grown⟩
set_option maxHeartbeats 400000 in
theorem stmtPos_at (b : Nat) (o lc : Int) (w : World) (h0 : w.cell? ⟨b, 2, none⟩ = some (.int .u32 o)) (h1 : w.cell? ⟨b, 3, none⟩ = some (.int .u32 lc)) (hb : b < w.heap.size) :
    Calls Try.prog 32 #[.pointer (some ⟨b, 0, none⟩)] w fun e w' => e = .returned (.agg #[.int .u32 o, .int .u32 lc]) ∧ w' = w.alloc (.cells #[.int .u32 o, .int .u32 lc] 29) := by
  go_enter Try.func32, Try.ntmps32
  go_wp2
  go_returns
  exact ⟨rfl, rfl⟩
theorem stmtPos_any (b : Nat) (o lc : Int) (w : World) (h0 : w.cell? ⟨b, 2, none⟩ = some (.int .u32 o)) (h1 : w.cell? ⟨b, 3, none⟩ = some (.int .u32 lc)) (hb : b < w.heap.size) :
    Calls Try.prog 32 #[.pointer (some ⟨b, 0, none⟩)] w fun e w' => e = .returned (.agg #[.int .u32 o, .int .u32 lc]) ∧ Below w.heap.size w w' :=
  (stmtPos_at b o lc w h0 h1 hb).mono fun _ _ ⟨he, hw⟩ => ⟨he, by rw [hw]; go_grown⟩
end Go.Proofs.Ytfeibikakhmecaa
