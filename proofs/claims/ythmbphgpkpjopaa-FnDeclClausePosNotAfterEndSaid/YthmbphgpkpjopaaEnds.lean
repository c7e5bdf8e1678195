/- Contracts of plain Pos and End methods: a field is returned, or a field moved by a constant. Conditions: raw fields that fit 32 bits. -/
import Derived.Test.YthmbphgpkpjopaaPos
import Derived.Handy
namespace Go.Proofs.Ythmbphgpkpjopaa
open Go.RowKit

set_option maxHeartbeats 400000 in
theorem litPos_at (b : Nat) (o lc : Int) (w : World) (h0 : w.cell? ⟨b, 0, none⟩ = some (.int .u32 o)) (h1 : w.cell? ⟨b, 1, none⟩ = some (.int .u32 lc)) (hb : b < w.heap.size) :
    Calls Try.prog 25 #[.pointer (some ⟨b, 0, none⟩)] w fun e w' => e = .returned (.agg #[.int .u32 o, .int .u32 lc]) ∧ w' = w.alloc (.cells #[.int .u32 o, .int .u32 lc] 25) := by
  go_enter Try.func25, Try.ntmps25
  go_wp2
  go_returns
  exact ⟨rfl, rfl⟩
theorem litPos_any (b : Nat) (o lc : Int) (w : World) (h0 : w.cell? ⟨b, 0, none⟩ = some (.int .u32 o)) (h1 : w.cell? ⟨b, 1, none⟩ = some (.int .u32 lc)) (hb : b < w.heap.size) :
    Calls Try.prog 25 #[.pointer (some ⟨b, 0, none⟩)] w fun e w' => e = .returned (.agg #[.int .u32 o, .int .u32 lc]) ∧ Below w.heap.size w w' :=
  (litPos_at b o lc w h0 h1 hb).mono fun _ _ ⟨he, hw⟩ => ⟨he, by rw [hw]; go_grown⟩
set_option maxHeartbeats 400000 in
theorem litEnd_at (b : Nat) (o lc : Int) (w : World) (h0 : w.cell? ⟨b, 2, none⟩ = some (.int .u32 o)) (h1 : w.cell? ⟨b, 3, none⟩ = some (.int .u32 lc)) (hb : b < w.heap.size) :
    Calls Try.prog 22 #[.pointer (some ⟨b, 0, none⟩)] w fun e w' => e = .returned (.agg #[.int .u32 o, .int .u32 lc]) ∧ w' = w.alloc (.cells #[.int .u32 o, .int .u32 lc] 25) := by
  go_enter Try.func22, Try.ntmps22
  go_wp2
  go_returns
  exact ⟨rfl, rfl⟩
theorem litEnd_any (b : Nat) (o lc : Int) (w : World) (h0 : w.cell? ⟨b, 2, none⟩ = some (.int .u32 o)) (h1 : w.cell? ⟨b, 3, none⟩ = some (.int .u32 lc)) (hb : b < w.heap.size) :
    Calls Try.prog 22 #[.pointer (some ⟨b, 0, none⟩)] w fun e w' => e = .returned (.agg #[.int .u32 o, .int .u32 lc]) ∧ Below w.heap.size w w' :=
  (litEnd_at b o lc w h0 h1 hb).mono fun _ _ ⟨he, hw⟩ => ⟨he, by rw [hw]; go_grown⟩
set_option maxHeartbeats 400000 in
theorem arrayExprEnd_any (b : Nat) (o lc : Int) (w : World) (ho : 0 ≤ o ∧ o ≤ 4294967295) (hl : 0 ≤ lc ∧ lc ≤ 4294967295) (h0 : w.cell? ⟨b, 2, none⟩ = some (.int .u32 o)) (h1 : w.cell? ⟨b, 3, none⟩ = some (.int .u32 lc)) (hb : b < w.heap.size) :
    Calls Try.prog 33 #[.pointer (some ⟨b, 0, none⟩)] w fun e w' => e = .returned (.agg #[.int .u32 (addO o lc 1), .int .u32 (addLc o lc 1)]) ∧ Below w.heap.size w w' := by
  go_enter Try.func33, Try.ntmps33
  go_wp2_with fail
  refine (addCol_any _ _ _ _ ho hl (by omega)).mono ?_
  rintro e w1 ⟨rfl, hb1⟩
  obtain ⟨k0, k1, f0, f1, hB⟩ := slot_after hb1
  clear hb1
  go_wp2_with fail
  exact bodyPost_ret (v := .agg #[.int .u32 (addO o lc 1), .int .u32 (addLc o lc 1)]) (by simp [results, Try.results33, go_sem, k0, k1]) rfl ⟨rfl, by go_grown⟩
end Go.Proofs.Ythmbphgpkpjopaa
