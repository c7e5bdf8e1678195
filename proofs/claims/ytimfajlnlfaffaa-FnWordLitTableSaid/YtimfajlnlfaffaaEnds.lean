/- Contracts of plain Pos and End methods: a field is returned, or a field moved by a constant. Conditions: raw fields that fit 32 bits. -/
import Derived.Test.YtimfajlnlfaffaaPos
import Derived.Handy
namespace Go.Proofs.Ytimfajlnlfaffaa
open Go.RowKit

set_option maxHeartbeats 400000 in
theorem litPos_at (b : Nat) (o lc : Int) (w : World) (h0 : w.cell? ⟨b, 0, none⟩ = some (.int .u32 o)) (h1 : w.cell? ⟨b, 1, none⟩ = some (.int .u32 lc)) (hb : b < w.heap.size) :
    Calls Try.prog 65 #[.pointer (some ⟨b, 0, none⟩)] w fun e w' => e = .returned (.agg #[.int .u32 o, .int .u32 lc]) ∧ w' = w.alloc (.cells #[.int .u32 o, .int .u32 lc] 24) := by
  go_enter Try.func65, Try.ntmps65
  go_wp2
  go_returns
  exact ⟨rfl, rfl⟩
theorem litPos_any (b : Nat) (o lc : Int) (w : World) (h0 : w.cell? ⟨b, 0, none⟩ = some (.int .u32 o)) (h1 : w.cell? ⟨b, 1, none⟩ = some (.int .u32 lc)) (hb : b < w.heap.size) :
    Calls Try.prog 65 #[.pointer (some ⟨b, 0, none⟩)] w fun e w' => e = .returned (.agg #[.int .u32 o, .int .u32 lc]) ∧ Below w.heap.size w w' :=
  (litPos_at b o lc w h0 h1 hb).mono fun _ _ ⟨he, hw⟩ => ⟨he, by rw [hw]; go_grown⟩
set_option maxHeartbeats 400000 in
theorem litEnd_at (b : Nat) (o lc : Int) (w : World) (h0 : w.cell? ⟨b, 2, none⟩ = some (.int .u32 o)) (h1 : w.cell? ⟨b, 3, none⟩ = some (.int .u32 lc)) (hb : b < w.heap.size) :
    Calls Try.prog 68 #[.pointer (some ⟨b, 0, none⟩)] w fun e w' => e = .returned (.agg #[.int .u32 o, .int .u32 lc]) ∧ w' = w.alloc (.cells #[.int .u32 o, .int .u32 lc] 24) := by
  go_enter Try.func68, Try.ntmps68
  go_wp2
  go_returns
  exact ⟨rfl, rfl⟩
theorem litEnd_any (b : Nat) (o lc : Int) (w : World) (h0 : w.cell? ⟨b, 2, none⟩ = some (.int .u32 o)) (h1 : w.cell? ⟨b, 3, none⟩ = some (.int .u32 lc)) (hb : b < w.heap.size) :
    Calls Try.prog 68 #[.pointer (some ⟨b, 0, none⟩)] w fun e w' => e = .returned (.agg #[.int .u32 o, .int .u32 lc]) ∧ Below w.heap.size w w' :=
  (litEnd_at b o lc w h0 h1 hb).mono fun _ _ ⟨he, hw⟩ => ⟨he, by rw [hw]; go_grown⟩
set_option maxHeartbeats 400000 in
theorem dblPos_at (b : Nat) (o lc : Int) (w : World) (h0 : w.cell? ⟨b, 0, none⟩ = some (.int .u32 o)) (h1 : w.cell? ⟨b, 1, none⟩ = some (.int .u32 lc)) (hb : b < w.heap.size) :
    Calls Try.prog 130 #[.pointer (some ⟨b, 0, none⟩)] w fun e w' => e = .returned (.agg #[.int .u32 o, .int .u32 lc]) ∧ w' = w.alloc (.cells #[.int .u32 o, .int .u32 lc] 24) := by
  go_enter Try.func130, Try.ntmps130
  go_wp2
  go_returns
  exact ⟨rfl, rfl⟩
theorem dblPos_any (b : Nat) (o lc : Int) (w : World) (h0 : w.cell? ⟨b, 0, none⟩ = some (.int .u32 o)) (h1 : w.cell? ⟨b, 1, none⟩ = some (.int .u32 lc)) (hb : b < w.heap.size) :
    Calls Try.prog 130 #[.pointer (some ⟨b, 0, none⟩)] w fun e w' => e = .returned (.agg #[.int .u32 o, .int .u32 lc]) ∧ Below w.heap.size w w' :=
  (dblPos_at b o lc w h0 h1 hb).mono fun _ _ ⟨he, hw⟩ => ⟨he, by rw [hw]; go_grown⟩
set_option maxHeartbeats 400000 in
theorem sglPos_at (b : Nat) (o lc : Int) (w : World) (h0 : w.cell? ⟨b, 0, none⟩ = some (.int .u32 o)) (h1 : w.cell? ⟨b, 1, none⟩ = some (.int .u32 lc)) (hb : b < w.heap.size) :
    Calls Try.prog 127 #[.pointer (some ⟨b, 0, none⟩)] w fun e w' => e = .returned (.agg #[.int .u32 o, .int .u32 lc]) ∧ w' = w.alloc (.cells #[.int .u32 o, .int .u32 lc] 24) := by
  go_enter Try.func127, Try.ntmps127
  go_wp2
  go_returns
  exact ⟨rfl, rfl⟩
theorem sglPos_any (b : Nat) (o lc : Int) (w : World) (h0 : w.cell? ⟨b, 0, none⟩ = some (.int .u32 o)) (h1 : w.cell? ⟨b, 1, none⟩ = some (.int .u32 lc)) (hb : b < w.heap.size) :
    Calls Try.prog 127 #[.pointer (some ⟨b, 0, none⟩)] w fun e w' => e = .returned (.agg #[.int .u32 o, .int .u32 lc]) ∧ Below w.heap.size w w' :=
  (sglPos_at b o lc w h0 h1 hb).mono fun _ _ ⟨he, hw⟩ => ⟨he, by rw [hw]; go_grown⟩
set_option maxHeartbeats 400000 in
theorem parenArPos_at (b : Nat) (o lc : Int) (w : World) (h0 : w.cell? ⟨b, 0, none⟩ = some (.int .u32 o)) (h1 : w.cell? ⟨b, 1, none⟩ = some (.int .u32 lc)) (hb : b < w.heap.size) :
    Calls Try.prog 111 #[.pointer (some ⟨b, 0, none⟩)] w fun e w' => e = .returned (.agg #[.int .u32 o, .int .u32 lc]) ∧ w' = w.alloc (.cells #[.int .u32 o, .int .u32 lc] 24) := by
  go_enter Try.func111, Try.ntmps111
  go_wp2
  go_returns
  exact ⟨rfl, rfl⟩
theorem parenArPos_any (b : Nat) (o lc : Int) (w : World) (h0 : w.cell? ⟨b, 0, none⟩ = some (.int .u32 o)) (h1 : w.cell? ⟨b, 1, none⟩ = some (.int .u32 lc)) (hb : b < w.heap.size) :
    Calls Try.prog 111 #[.pointer (some ⟨b, 0, none⟩)] w fun e w' => e = .returned (.agg #[.int .u32 o, .int .u32 lc]) ∧ Below w.heap.size w w' :=
  (parenArPos_at b o lc w h0 h1 hb).mono fun _ _ ⟨he, hw⟩ => ⟨he, by rw [hw]; go_grown⟩
set_option maxHeartbeats 400000 in
theorem parenTestPos_at (b : Nat) (o lc : Int) (w : World) (h0 : w.cell? ⟨b, 0, none⟩ = some (.int .u32 o)) (h1 : w.cell? ⟨b, 1, none⟩ = some (.int .u32 lc)) (hb : b < w.heap.size) :
    Calls Try.prog 119 #[.pointer (some ⟨b, 0, none⟩)] w fun e w' => e = .returned (.agg #[.int .u32 o, .int .u32 lc]) ∧ w' = w.alloc (.cells #[.int .u32 o, .int .u32 lc] 24) := by
  go_enter Try.func119, Try.ntmps119
  go_wp2
  go_returns
  exact ⟨rfl, rfl⟩
theorem parenTestPos_any (b : Nat) (o lc : Int) (w : World) (h0 : w.cell? ⟨b, 0, none⟩ = some (.int .u32 o)) (h1 : w.cell? ⟨b, 1, none⟩ = some (.int .u32 lc)) (hb : b < w.heap.size) :
    Calls Try.prog 119 #[.pointer (some ⟨b, 0, none⟩)] w fun e w' => e = .returned (.agg #[.int .u32 o, .int .u32 lc]) ∧ Below w.heap.size w w' :=
  (parenTestPos_at b o lc w h0 h1 hb).mono fun _ _ ⟨he, hw⟩ => ⟨he, by rw [hw]; go_grown⟩
set_option maxHeartbeats 400000 in
theorem unTestPos_at (b : Nat) (o lc : Int) (w : World) (h0 : w.cell? ⟨b, 0, none⟩ = some (.int .u32 o)) (h1 : w.cell? ⟨b, 1, none⟩ = some (.int .u32 lc)) (hb : b < w.heap.size) :
    Calls Try.prog 116 #[.pointer (some ⟨b, 0, none⟩)] w fun e w' => e = .returned (.agg #[.int .u32 o, .int .u32 lc]) ∧ w' = w.alloc (.cells #[.int .u32 o, .int .u32 lc] 24) := by
  go_enter Try.func116, Try.ntmps116
  go_wp2
  go_returns
  exact ⟨rfl, rfl⟩
theorem unTestPos_any (b : Nat) (o lc : Int) (w : World) (h0 : w.cell? ⟨b, 0, none⟩ = some (.int .u32 o)) (h1 : w.cell? ⟨b, 1, none⟩ = some (.int .u32 lc)) (hb : b < w.heap.size) :
    Calls Try.prog 116 #[.pointer (some ⟨b, 0, none⟩)] w fun e w' => e = .returned (.agg #[.int .u32 o, .int .u32 lc]) ∧ Below w.heap.size w w' :=
  (unTestPos_at b o lc w h0 h1 hb).mono fun _ _ ⟨he, hw⟩ => ⟨he, by rw [hw]; go_grown⟩
set_option maxHeartbeats 400000 in
theorem dblEnd_any (b : Nat) (o lc : Int) (w : World) (ho : 0 ≤ o ∧ o ≤ 4294967295) (hl : 0 ≤ lc ∧ lc ≤ 4294967295) (h0 : w.cell? ⟨b, 2, none⟩ = some (.int .u32 o)) (h1 : w.cell? ⟨b, 3, none⟩ = some (.int .u32 lc)) (hb : b < w.heap.size) :
    Calls Try.prog 129 #[.pointer (some ⟨b, 0, none⟩)] w fun e w' => e = .returned (.agg #[.int .u32 (addO o lc 1), .int .u32 (addLc o lc 1)]) ∧ Below w.heap.size w w' := by
  go_enter Try.func129, Try.ntmps129
  go_wp2_with fail
  refine (addCol_any _ _ _ _ ho hl (by omega)).mono ?_
  rintro e w1 ⟨rfl, hb1⟩
  obtain ⟨k0, k1, f0, f1, hB⟩ := slot_after hb1
  clear hb1
  go_wp2_with fail
  exact bodyPost_ret (v := .agg #[.int .u32 (addO o lc 1), .int .u32 (addLc o lc 1)]) (by simp [results, Try.results129, go_sem, k0, k1]) rfl ⟨rfl, by go_grown⟩
set_option maxHeartbeats 400000 in
theorem sglEnd_any (b : Nat) (o lc : Int) (w : World) (ho : 0 ≤ o ∧ o ≤ 4294967295) (hl : 0 ≤ lc ∧ lc ≤ 4294967295) (h0 : w.cell? ⟨b, 2, none⟩ = some (.int .u32 o)) (h1 : w.cell? ⟨b, 3, none⟩ = some (.int .u32 lc)) (hb : b < w.heap.size) :
    Calls Try.prog 126 #[.pointer (some ⟨b, 0, none⟩)] w fun e w' => e = .returned (.agg #[.int .u32 (addO o lc 1), .int .u32 (addLc o lc 1)]) ∧ Below w.heap.size w w' := by
  go_enter Try.func126, Try.ntmps126
  go_wp2_with fail
  refine (addCol_any _ _ _ _ ho hl (by omega)).mono ?_
  rintro e w1 ⟨rfl, hb1⟩
  obtain ⟨k0, k1, f0, f1, hB⟩ := slot_after hb1
  clear hb1
  go_wp2_with fail
  exact bodyPost_ret (v := .agg #[.int .u32 (addO o lc 1), .int .u32 (addLc o lc 1)]) (by simp [results, Try.results126, go_sem, k0, k1]) rfl ⟨rfl, by go_grown⟩
set_option maxHeartbeats 400000 in
theorem parenTestEnd_any (b : Nat) (o lc : Int) (w : World) (ho : 0 ≤ o ∧ o ≤ 4294967295) (hl : 0 ≤ lc ∧ lc ≤ 4294967295) (h0 : w.cell? ⟨b, 2, none⟩ = some (.int .u32 o)) (h1 : w.cell? ⟨b, 3, none⟩ = some (.int .u32 lc)) (hb : b < w.heap.size) :
    Calls Try.prog 118 #[.pointer (some ⟨b, 0, none⟩)] w fun e w' => e = .returned (.agg #[.int .u32 (addO o lc 1), .int .u32 (addLc o lc 1)]) ∧ Below w.heap.size w w' := by
  go_enter Try.func118, Try.ntmps118
  go_wp2_with fail
  refine (addCol_any _ _ _ _ ho hl (by omega)).mono ?_
  rintro e w1 ⟨rfl, hb1⟩
  obtain ⟨k0, k1, f0, f1, hB⟩ := slot_after hb1
  clear hb1
  go_wp2_with fail
  exact bodyPost_ret (v := .agg #[.int .u32 (addO o lc 1), .int .u32 (addLc o lc 1)]) (by simp [results, Try.results118, go_sem, k0, k1]) rfl ⟨rfl, by go_grown⟩
set_option maxHeartbeats 400000 in
theorem parenArEnd_any (b : Nat) (o lc : Int) (w : World) (ho : 0 ≤ o ∧ o ≤ 4294967295) (hl : 0 ≤ lc ∧ lc ≤ 4294967295) (h0 : w.cell? ⟨b, 2, none⟩ = some (.int .u32 o)) (h1 : w.cell? ⟨b, 3, none⟩ = some (.int .u32 lc)) (hb : b < w.heap.size) :
    Calls Try.prog 110 #[.pointer (some ⟨b, 0, none⟩)] w fun e w' => e = .returned (.agg #[.int .u32 (addO o lc 1), .int .u32 (addLc o lc 1)]) ∧ Below w.heap.size w w' := by
  go_enter Try.func110, Try.ntmps110
  go_wp2_with fail
  refine (addCol_any _ _ _ _ ho hl (by omega)).mono ?_
  rintro e w1 ⟨rfl, hb1⟩
  obtain ⟨k0, k1, f0, f1, hB⟩ := slot_after hb1
  clear hb1
  go_wp2_with fail
  exact bodyPost_ret (v := .agg #[.int .u32 (addO o lc 1), .int .u32 (addLc o lc 1)]) (by simp [results, Try.results110, go_sem, k0, k1]) rfl ⟨rfl, by go_grown⟩
set_option maxHeartbeats 400000 in
theorem arrayExprEnd_any (b : Nat) (o lc : Int) (w : World) (ho : 0 ≤ o ∧ o ≤ 4294967295) (hl : 0 ≤ lc ∧ lc ≤ 4294967295) (h0 : w.cell? ⟨b, 2, none⟩ = some (.int .u32 o)) (h1 : w.cell? ⟨b, 3, none⟩ = some (.int .u32 lc)) (hb : b < w.heap.size) :
    Calls Try.prog 66 #[.pointer (some ⟨b, 0, none⟩)] w fun e w' => e = .returned (.agg #[.int .u32 (addO o lc 1), .int .u32 (addLc o lc 1)]) ∧ Below w.heap.size w w' := by
  go_enter Try.func66, Try.ntmps66
  go_wp2_with fail
  refine (addCol_any _ _ _ _ ho hl (by omega)).mono ?_
  rintro e w1 ⟨rfl, hb1⟩
  obtain ⟨k0, k1, f0, f1, hB⟩ := slot_after hb1
  clear hb1
  go_wp2_with fail
  exact bodyPost_ret (v := .agg #[.int .u32 (addO o lc 1), .int .u32 (addLc o lc 1)]) (by simp [results, Try.results66, go_sem, k0, k1]) rfl ⟨rfl, by go_grown⟩
end Go.Proofs.Ytimfajlnlfaffaa
