/- Contracts of plain Pos and End methods: a field is returned, or a field moved by a constant. Conditions: raw fields that fit 32 bits. -/
import Derived.Test.YtdphohobnmfbnaaPos
import Derived.Handy
namespace Go.Proofs.Ytdphohobnmfbnaa
open Go.RowKit

set_option maxHeartbeats 400000 in
theorem litPos_at (b : Nat) (o lc : Int) (w : World) (h0 : w.cell? ⟨b, 0, none⟩ = some (.int .u32 o)) (h1 : w.cell? ⟨b, 1, none⟩ = some (.int .u32 lc)) (hb : b < w.heap.size) :
    Calls Try.prog 59 #[.pointer (some ⟨b, 0, none⟩)] w fun e w' => e = .returned (.agg #[.int .u32 o, .int .u32 lc]) ∧ w' = w.alloc (.cells #[.int .u32 o, .int .u32 lc] 25) := by
  go_enter Try.func59, Try.ntmps59
  go_wp2
  go_returns
  exact ⟨rfl, rfl⟩
theorem litPos_any (b : Nat) (o lc : Int) (w : World) (h0 : w.cell? ⟨b, 0, none⟩ = some (.int .u32 o)) (h1 : w.cell? ⟨b, 1, none⟩ = some (.int .u32 lc)) (hb : b < w.heap.size) :
    Calls Try.prog 59 #[.pointer (some ⟨b, 0, none⟩)] w fun e w' => e = .returned (.agg #[.int .u32 o, .int .u32 lc]) ∧ Below w.heap.size w w' :=
  (litPos_at b o lc w h0 h1 hb).mono fun _ _ ⟨he, hw⟩ => ⟨he, by rw [hw]; go_grown⟩
set_option maxHeartbeats 400000 in
theorem litEnd_at (b : Nat) (o lc : Int) (w : World) (h0 : w.cell? ⟨b, 2, none⟩ = some (.int .u32 o)) (h1 : w.cell? ⟨b, 3, none⟩ = some (.int .u32 lc)) (hb : b < w.heap.size) :
    Calls Try.prog 57 #[.pointer (some ⟨b, 0, none⟩)] w fun e w' => e = .returned (.agg #[.int .u32 o, .int .u32 lc]) ∧ w' = w.alloc (.cells #[.int .u32 o, .int .u32 lc] 25) := by
  go_enter Try.func57, Try.ntmps57
  go_wp2
  go_returns
  exact ⟨rfl, rfl⟩
theorem litEnd_any (b : Nat) (o lc : Int) (w : World) (h0 : w.cell? ⟨b, 2, none⟩ = some (.int .u32 o)) (h1 : w.cell? ⟨b, 3, none⟩ = some (.int .u32 lc)) (hb : b < w.heap.size) :
    Calls Try.prog 57 #[.pointer (some ⟨b, 0, none⟩)] w fun e w' => e = .returned (.agg #[.int .u32 o, .int .u32 lc]) ∧ Below w.heap.size w w' :=
  (litEnd_at b o lc w h0 h1 hb).mono fun _ _ ⟨he, hw⟩ => ⟨he, by rw [hw]; go_grown⟩
set_option maxHeartbeats 400000 in
theorem procPos_at (b : Nat) (o lc : Int) (w : World) (h0 : w.cell? ⟨b, 0, none⟩ = some (.int .u32 o)) (h1 : w.cell? ⟨b, 1, none⟩ = some (.int .u32 lc)) (hb : b < w.heap.size) :
    Calls Try.prog 24 #[.pointer (some ⟨b, 0, none⟩)] w fun e w' => e = .returned (.agg #[.int .u32 o, .int .u32 lc]) ∧ w' = w.alloc (.cells #[.int .u32 o, .int .u32 lc] 25) := by
  go_enter Try.func24, Try.ntmps24
  go_wp2
  go_returns
  exact ⟨rfl, rfl⟩
theorem procPos_any (b : Nat) (o lc : Int) (w : World) (h0 : w.cell? ⟨b, 0, none⟩ = some (.int .u32 o)) (h1 : w.cell? ⟨b, 1, none⟩ = some (.int .u32 lc)) (hb : b < w.heap.size) :
    Calls Try.prog 24 #[.pointer (some ⟨b, 0, none⟩)] w fun e w' => e = .returned (.agg #[.int .u32 o, .int .u32 lc]) ∧ Below w.heap.size w w' :=
  (procPos_at b o lc w h0 h1 hb).mono fun _ _ ⟨he, hw⟩ => ⟨he, by rw [hw]; go_grown⟩
set_option maxHeartbeats 400000 in
theorem dblPos_at (b : Nat) (o lc : Int) (w : World) (h0 : w.cell? ⟨b, 0, none⟩ = some (.int .u32 o)) (h1 : w.cell? ⟨b, 1, none⟩ = some (.int .u32 lc)) (hb : b < w.heap.size) :
    Calls Try.prog 26 #[.pointer (some ⟨b, 0, none⟩)] w fun e w' => e = .returned (.agg #[.int .u32 o, .int .u32 lc]) ∧ w' = w.alloc (.cells #[.int .u32 o, .int .u32 lc] 25) := by
  go_enter Try.func26, Try.ntmps26
  go_wp2
  go_returns
  exact ⟨rfl, rfl⟩
theorem dblPos_any (b : Nat) (o lc : Int) (w : World) (h0 : w.cell? ⟨b, 0, none⟩ = some (.int .u32 o)) (h1 : w.cell? ⟨b, 1, none⟩ = some (.int .u32 lc)) (hb : b < w.heap.size) :
    Calls Try.prog 26 #[.pointer (some ⟨b, 0, none⟩)] w fun e w' => e = .returned (.agg #[.int .u32 o, .int .u32 lc]) ∧ Below w.heap.size w w' :=
  (dblPos_at b o lc w h0 h1 hb).mono fun _ _ ⟨he, hw⟩ => ⟨he, by rw [hw]; go_grown⟩
set_option maxHeartbeats 400000 in
theorem arCmdPos_at (b : Nat) (o lc : Int) (w : World) (h0 : w.cell? ⟨b, 0, none⟩ = some (.int .u32 o)) (h1 : w.cell? ⟨b, 1, none⟩ = some (.int .u32 lc)) (hb : b < w.heap.size) :
    Calls Try.prog 37 #[.pointer (some ⟨b, 0, none⟩)] w fun e w' => e = .returned (.agg #[.int .u32 o, .int .u32 lc]) ∧ w' = w.alloc (.cells #[.int .u32 o, .int .u32 lc] 25) := by
  go_enter Try.func37, Try.ntmps37
  go_wp2
  go_returns
  exact ⟨rfl, rfl⟩
theorem arCmdPos_any (b : Nat) (o lc : Int) (w : World) (h0 : w.cell? ⟨b, 0, none⟩ = some (.int .u32 o)) (h1 : w.cell? ⟨b, 1, none⟩ = some (.int .u32 lc)) (hb : b < w.heap.size) :
    Calls Try.prog 37 #[.pointer (some ⟨b, 0, none⟩)] w fun e w' => e = .returned (.agg #[.int .u32 o, .int .u32 lc]) ∧ Below w.heap.size w w' :=
  (arCmdPos_at b o lc w h0 h1 hb).mono fun _ _ ⟨he, hw⟩ => ⟨he, by rw [hw]; go_grown⟩
set_option maxHeartbeats 400000 in
theorem stmtPos_at (b : Nat) (o lc : Int) (w : World) (h0 : w.cell? ⟨b, 2, none⟩ = some (.int .u32 o)) (h1 : w.cell? ⟨b, 3, none⟩ = some (.int .u32 lc)) (hb : b < w.heap.size) :
    Calls Try.prog 44 #[.pointer (some ⟨b, 0, none⟩)] w fun e w' => e = .returned (.agg #[.int .u32 o, .int .u32 lc]) ∧ w' = w.alloc (.cells #[.int .u32 o, .int .u32 lc] 25) := by
  go_enter Try.func44, Try.ntmps44
  go_wp2
  go_returns
  exact ⟨rfl, rfl⟩
theorem stmtPos_any (b : Nat) (o lc : Int) (w : World) (h0 : w.cell? ⟨b, 2, none⟩ = some (.int .u32 o)) (h1 : w.cell? ⟨b, 3, none⟩ = some (.int .u32 lc)) (hb : b < w.heap.size) :
    Calls Try.prog 44 #[.pointer (some ⟨b, 0, none⟩)] w fun e w' => e = .returned (.agg #[.int .u32 o, .int .u32 lc]) ∧ Below w.heap.size w w' :=
  (stmtPos_at b o lc w h0 h1 hb).mono fun _ _ ⟨he, hw⟩ => ⟨he, by rw [hw]; go_grown⟩
set_option maxHeartbeats 400000 in
theorem parenArPos_at (b : Nat) (o lc : Int) (w : World) (h0 : w.cell? ⟨b, 0, none⟩ = some (.int .u32 o)) (h1 : w.cell? ⟨b, 1, none⟩ = some (.int .u32 lc)) (hb : b < w.heap.size) :
    Calls Try.prog 115 #[.pointer (some ⟨b, 0, none⟩)] w fun e w' => e = .returned (.agg #[.int .u32 o, .int .u32 lc]) ∧ w' = w.alloc (.cells #[.int .u32 o, .int .u32 lc] 25) := by
  go_enter Try.func115, Try.ntmps115
  go_wp2
  go_returns
  exact ⟨rfl, rfl⟩
theorem parenArPos_any (b : Nat) (o lc : Int) (w : World) (h0 : w.cell? ⟨b, 0, none⟩ = some (.int .u32 o)) (h1 : w.cell? ⟨b, 1, none⟩ = some (.int .u32 lc)) (hb : b < w.heap.size) :
    Calls Try.prog 115 #[.pointer (some ⟨b, 0, none⟩)] w fun e w' => e = .returned (.agg #[.int .u32 o, .int .u32 lc]) ∧ Below w.heap.size w w' :=
  (parenArPos_at b o lc w h0 h1 hb).mono fun _ _ ⟨he, hw⟩ => ⟨he, by rw [hw]; go_grown⟩
set_option maxHeartbeats 400000 in
theorem parenTestPos_at (b : Nat) (o lc : Int) (w : World) (h0 : w.cell? ⟨b, 0, none⟩ = some (.int .u32 o)) (h1 : w.cell? ⟨b, 1, none⟩ = some (.int .u32 lc)) (hb : b < w.heap.size) :
    Calls Try.prog 99 #[.pointer (some ⟨b, 0, none⟩)] w fun e w' => e = .returned (.agg #[.int .u32 o, .int .u32 lc]) ∧ w' = w.alloc (.cells #[.int .u32 o, .int .u32 lc] 25) := by
  go_enter Try.func99, Try.ntmps99
  go_wp2
  go_returns
  exact ⟨rfl, rfl⟩
theorem parenTestPos_any (b : Nat) (o lc : Int) (w : World) (h0 : w.cell? ⟨b, 0, none⟩ = some (.int .u32 o)) (h1 : w.cell? ⟨b, 1, none⟩ = some (.int .u32 lc)) (hb : b < w.heap.size) :
    Calls Try.prog 99 #[.pointer (some ⟨b, 0, none⟩)] w fun e w' => e = .returned (.agg #[.int .u32 o, .int .u32 lc]) ∧ Below w.heap.size w w' :=
  (parenTestPos_at b o lc w h0 h1 hb).mono fun _ _ ⟨he, hw⟩ => ⟨he, by rw [hw]; go_grown⟩
set_option maxHeartbeats 400000 in
theorem procEnd_any (b : Nat) (o lc : Int) (w : World) (ho : 0 ≤ o ∧ o ≤ 4294967295) (hl : 0 ≤ lc ∧ lc ≤ 4294967295) (h0 : w.cell? ⟨b, 2, none⟩ = some (.int .u32 o)) (h1 : w.cell? ⟨b, 3, none⟩ = some (.int .u32 lc)) (hb : b < w.heap.size) :
    Calls Try.prog 22 #[.pointer (some ⟨b, 0, none⟩)] w fun e w' => e = .returned (.agg #[.int .u32 (addO o lc 1), .int .u32 (addLc o lc 1)]) ∧ Below w.heap.size w w' := by
  go_enter Try.func22, Try.ntmps22
  go_wp2_with fail
  refine (addCol_any _ _ _ _ ho hl (by omega)).mono ?_
  rintro e w1 ⟨rfl, hb1⟩
  obtain ⟨k0, k1, f0, f1, hB⟩ := slot_after hb1
  clear hb1
  go_wp2_with fail
  exact bodyPost_ret (v := .agg #[.int .u32 (addO o lc 1), .int .u32 (addLc o lc 1)]) (by simp [results, Try.results22, go_sem, k0, k1]) rfl ⟨rfl, by go_grown⟩
set_option maxHeartbeats 400000 in
theorem dblEnd_any (b : Nat) (o lc : Int) (w : World) (ho : 0 ≤ o ∧ o ≤ 4294967295) (hl : 0 ≤ lc ∧ lc ≤ 4294967295) (h0 : w.cell? ⟨b, 2, none⟩ = some (.int .u32 o)) (h1 : w.cell? ⟨b, 3, none⟩ = some (.int .u32 lc)) (hb : b < w.heap.size) :
    Calls Try.prog 27 #[.pointer (some ⟨b, 0, none⟩)] w fun e w' => e = .returned (.agg #[.int .u32 (addO o lc 1), .int .u32 (addLc o lc 1)]) ∧ Below w.heap.size w w' := by
  go_enter Try.func27, Try.ntmps27
  go_wp2_with fail
  refine (addCol_any _ _ _ _ ho hl (by omega)).mono ?_
  rintro e w1 ⟨rfl, hb1⟩
  obtain ⟨k0, k1, f0, f1, hB⟩ := slot_after hb1
  clear hb1
  go_wp2_with fail
  exact bodyPost_ret (v := .agg #[.int .u32 (addO o lc 1), .int .u32 (addLc o lc 1)]) (by simp [results, Try.results27, go_sem, k0, k1]) rfl ⟨rfl, by go_grown⟩
set_option maxHeartbeats 400000 in
theorem parenTestEnd_any (b : Nat) (o lc : Int) (w : World) (ho : 0 ≤ o ∧ o ≤ 4294967295) (hl : 0 ≤ lc ∧ lc ≤ 4294967295) (h0 : w.cell? ⟨b, 2, none⟩ = some (.int .u32 o)) (h1 : w.cell? ⟨b, 3, none⟩ = some (.int .u32 lc)) (hb : b < w.heap.size) :
    Calls Try.prog 29 #[.pointer (some ⟨b, 0, none⟩)] w fun e w' => e = .returned (.agg #[.int .u32 (addO o lc 1), .int .u32 (addLc o lc 1)]) ∧ Below w.heap.size w w' := by
  go_enter Try.func29, Try.ntmps29
  go_wp2_with fail
  refine (addCol_any _ _ _ _ ho hl (by omega)).mono ?_
  rintro e w1 ⟨rfl, hb1⟩
  obtain ⟨k0, k1, f0, f1, hB⟩ := slot_after hb1
  clear hb1
  go_wp2_with fail
  exact bodyPost_ret (v := .agg #[.int .u32 (addO o lc 1), .int .u32 (addLc o lc 1)]) (by simp [results, Try.results29, go_sem, k0, k1]) rfl ⟨rfl, by go_grown⟩
set_option maxHeartbeats 400000 in
theorem arCmdEnd_any (b : Nat) (o lc : Int) (w : World) (ho : 0 ≤ o ∧ o ≤ 4294967295) (hl : 0 ≤ lc ∧ lc ≤ 4294967295) (h0 : w.cell? ⟨b, 2, none⟩ = some (.int .u32 o)) (h1 : w.cell? ⟨b, 3, none⟩ = some (.int .u32 lc)) (hb : b < w.heap.size) :
    Calls Try.prog 38 #[.pointer (some ⟨b, 0, none⟩)] w fun e w' => e = .returned (.agg #[.int .u32 (addO o lc 2), .int .u32 (addLc o lc 2)]) ∧ Below w.heap.size w w' := by
  go_enter Try.func38, Try.ntmps38
  go_wp2_with fail
  refine (addCol_any _ _ _ _ ho hl (by omega)).mono ?_
  rintro e w1 ⟨rfl, hb1⟩
  obtain ⟨k0, k1, f0, f1, hB⟩ := slot_after hb1
  clear hb1
  go_wp2_with fail
  exact bodyPost_ret (v := .agg #[.int .u32 (addO o lc 2), .int .u32 (addLc o lc 2)]) (by simp [results, Try.results38, go_sem, k0, k1]) rfl ⟨rfl, by go_grown⟩
set_option maxHeartbeats 400000 in
theorem blockEnd_any (b : Nat) (o lc : Int) (w : World) (ho : 0 ≤ o ∧ o ≤ 4294967295) (hl : 0 ≤ lc ∧ lc ≤ 4294967295) (h0 : w.cell? ⟨b, 2, none⟩ = some (.int .u32 o)) (h1 : w.cell? ⟨b, 3, none⟩ = some (.int .u32 lc)) (hb : b < w.heap.size) :
    Calls Try.prog 103 #[.pointer (some ⟨b, 0, none⟩)] w fun e w' => e = .returned (.agg #[.int .u32 (addO o lc 1), .int .u32 (addLc o lc 1)]) ∧ Below w.heap.size w w' := by
  go_enter Try.func103, Try.ntmps103
  go_wp2_with fail
  refine (addCol_any _ _ _ _ ho hl (by omega)).mono ?_
  rintro e w1 ⟨rfl, hb1⟩
  obtain ⟨k0, k1, f0, f1, hB⟩ := slot_after hb1
  clear hb1
  go_wp2_with fail
  exact bodyPost_ret (v := .agg #[.int .u32 (addO o lc 1), .int .u32 (addLc o lc 1)]) (by simp [results, Try.results103, go_sem, k0, k1]) rfl ⟨rfl, by go_grown⟩
set_option maxHeartbeats 400000 in
theorem parenArEnd_any (b : Nat) (o lc : Int) (w : World) (ho : 0 ≤ o ∧ o ≤ 4294967295) (hl : 0 ≤ lc ∧ lc ≤ 4294967295) (h0 : w.cell? ⟨b, 2, none⟩ = some (.int .u32 o)) (h1 : w.cell? ⟨b, 3, none⟩ = some (.int .u32 lc)) (hb : b < w.heap.size) :
    Calls Try.prog 114 #[.pointer (some ⟨b, 0, none⟩)] w fun e w' => e = .returned (.agg #[.int .u32 (addO o lc 1), .int .u32 (addLc o lc 1)]) ∧ Below w.heap.size w w' := by
  go_enter Try.func114, Try.ntmps114
  go_wp2_with fail
  refine (addCol_any _ _ _ _ ho hl (by omega)).mono ?_
  rintro e w1 ⟨rfl, hb1⟩
  obtain ⟨k0, k1, f0, f1, hB⟩ := slot_after hb1
  clear hb1
  go_wp2_with fail
  exact bodyPost_ret (v := .agg #[.int .u32 (addO o lc 1), .int .u32 (addLc o lc 1)]) (by simp [results, Try.results114, go_sem, k0, k1]) rfl ⟨rfl, by go_grown⟩
set_option maxHeartbeats 400000 in
theorem arrayExprEnd_any (b : Nat) (o lc : Int) (w : World) (ho : 0 ≤ o ∧ o ≤ 4294967295) (hl : 0 ≤ lc ∧ lc ≤ 4294967295) (h0 : w.cell? ⟨b, 2, none⟩ = some (.int .u32 o)) (h1 : w.cell? ⟨b, 3, none⟩ = some (.int .u32 lc)) (hb : b < w.heap.size) :
    Calls Try.prog 71 #[.pointer (some ⟨b, 0, none⟩)] w fun e w' => e = .returned (.agg #[.int .u32 (addO o lc 1), .int .u32 (addLc o lc 1)]) ∧ Below w.heap.size w w' := by
  go_enter Try.func71, Try.ntmps71
  go_wp2_with fail
  refine (addCol_any _ _ _ _ ho hl (by omega)).mono ?_
  rintro e w1 ⟨rfl, hb1⟩
  obtain ⟨k0, k1, f0, f1, hB⟩ := slot_after hb1
  clear hb1
  go_wp2_with fail
  exact bodyPost_ret (v := .agg #[.int .u32 (addO o lc 1), .int .u32 (addLc o lc 1)]) (by simp [results, Try.results71, go_sem, k0, k1]) rfl ⟨rfl, by go_grown⟩
end Go.Proofs.Ytdphohobnmfbnaa
