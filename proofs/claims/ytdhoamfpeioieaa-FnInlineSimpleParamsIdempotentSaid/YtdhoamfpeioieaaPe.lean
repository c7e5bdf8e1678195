/- Parameter expansions: what zzParamExp_b2 builds. Conditions: the cells. -/
import Derived.Test.YtdhoamfpeioieaaPeA
import Derived.Test.YtdhoamfpeioieaaPeB
import Derived.Test.YtdhoamfpeioieaaPeC
import Derived.Test.YtdhoamfpeioieaaPeD
namespace Go.Proofs.Ytdhoamfpeioieaa
open Go.RowKit
set_option linter.unusedVariables false
set_option linter.unusedSimpArgs false

set_option maxRecDepth 100000 in
set_option maxHeartbeats 2000000 in
theorem pex_0 (s : ByteArray) (w : World) :
    Calls Try.prog 26 #[.string s, .int .i64 0] w fun e w' => ∃ b l : Nat, e = .returned (.tuple #[.pointer (some ⟨b, 0, none⟩), .pointer (some ⟨l, 0, none⟩)]) ∧ (w'.cell? ⟨b, 13, none⟩ = some (.pointer (some ⟨l, 0, none⟩)) ∧ w'.cell? ⟨l, 4, none⟩ = some (.string s) ∧ SimpleIs w' b true) ∧ Below w.heap.size w w' := by
  go_enter Try.func26, Try.ntmps26
  go_wp2_with fail
  go_ret2
  refine ⟨w.heap.size + 1, w.heap.size, rfl, ⟨by simp [go_sem], by simp [go_sem], simple_0 (w.heap.size + 1) w.heap.size (0) _ ?_ ?_ ?_ ?_ ?_ ?_ ?_ ?_ ?_ ?_ ?_ ?_ ?_ ?_ ?_ ?_⟩, by go_grown⟩
  all_goals simp [go_sem]
set_option maxRecDepth 100000 in
set_option maxHeartbeats 2000000 in
theorem pex_1 (s : ByteArray) (w : World) :
    Calls Try.prog 26 #[.string s, .int .i64 1] w fun e w' => ∃ b l : Nat, e = .returned (.tuple #[.pointer (some ⟨b, 0, none⟩), .pointer (some ⟨l, 0, none⟩)]) ∧ (w'.cell? ⟨b, 13, none⟩ = some (.pointer (some ⟨l, 0, none⟩)) ∧ w'.cell? ⟨l, 4, none⟩ = some (.string s) ∧ SimpleIs w' b false) ∧ Below w.heap.size w w' := by
  go_enter Try.func26, Try.ntmps26
  go_wp2_with fail
  go_ret2
  refine ⟨w.heap.size + 1, w.heap.size, rfl, ⟨by simp [go_sem], by simp [go_sem], simple_1 (w.heap.size + 1) w.heap.size (0) _ ?_ ?_ ?_ ?_ ?_ ?_ ?_ ?_ ?_ ?_ ?_ ?_ ?_ ?_ ?_ ?_⟩, by go_grown⟩
  all_goals simp [go_sem]
set_option maxRecDepth 100000 in
set_option maxHeartbeats 2000000 in
theorem pex_2 (s : ByteArray) (w : World) :
    Calls Try.prog 26 #[.string s, .int .i64 2] w fun e w' => ∃ b l : Nat, e = .returned (.tuple #[.pointer (some ⟨b, 0, none⟩), .pointer (some ⟨l, 0, none⟩)]) ∧ (w'.cell? ⟨b, 13, none⟩ = some (.pointer (some ⟨l, 0, none⟩)) ∧ w'.cell? ⟨l, 4, none⟩ = some (.string s) ∧ SimpleIs w' b false) ∧ Below w.heap.size w w' := by
  go_enter Try.func26, Try.ntmps26
  go_wp2_with fail
  go_ret2
  refine ⟨w.heap.size + 1, w.heap.size, rfl, ⟨by simp [go_sem], by simp [go_sem], simple_2 (w.heap.size + 1) w.heap.size (0) _ ?_ ?_ ?_ ?_ ?_ ?_ ?_ ?_ ?_ ?_ ?_ ?_ ?_ ?_ ?_ ?_⟩, by go_grown⟩
  all_goals simp [go_sem]
set_option maxRecDepth 100000 in
set_option maxHeartbeats 2000000 in
theorem pex_3 (s : ByteArray) (w : World) :
    Calls Try.prog 26 #[.string s, .int .i64 3] w fun e w' => ∃ b l : Nat, e = .returned (.tuple #[.pointer (some ⟨b, 0, none⟩), .pointer (some ⟨l, 0, none⟩)]) ∧ (w'.cell? ⟨b, 13, none⟩ = some (.pointer (some ⟨l, 0, none⟩)) ∧ w'.cell? ⟨l, 4, none⟩ = some (.string s) ∧ SimpleIs w' b false) ∧ Below w.heap.size w w' := by
  go_enter Try.func26, Try.ntmps26
  go_wp2_with fail
  go_ret2
  refine ⟨w.heap.size + 1, w.heap.size, rfl, ⟨by simp [go_sem], by simp [go_sem], simple_3 (w.heap.size + 1) w.heap.size (0) _ ?_ ?_ ?_ ?_ ?_ ?_ ?_ ?_ ?_ ?_ ?_ ?_ ?_ ?_ ?_ ?_⟩, by go_grown⟩
  all_goals simp [go_sem]
set_option maxRecDepth 100000 in
set_option maxHeartbeats 2000000 in
theorem pex_4 (s : ByteArray) (w : World) :
    Calls Try.prog 26 #[.string s, .int .i64 4] w fun e w' => ∃ b l : Nat, e = .returned (.tuple #[.pointer (some ⟨b, 0, none⟩), .pointer (some ⟨l, 0, none⟩)]) ∧ (w'.cell? ⟨b, 13, none⟩ = some (.pointer (some ⟨l, 0, none⟩)) ∧ w'.cell? ⟨l, 4, none⟩ = some (.string s) ∧ SimpleIs w' b false) ∧ Below w.heap.size w w' := by
  go_enter Try.func26, Try.ntmps26
  go_wp2_with fail
  go_ret2
  refine ⟨w.heap.size + 1, w.heap.size, rfl, ⟨by simp [go_sem], by simp [go_sem], simple_4 (w.heap.size + 1) w.heap.size (0) _ ?_ ?_ ?_ ?_ ?_ ?_ ?_ ?_ ?_ ?_ ?_ ?_ ?_ ?_ ?_ ?_⟩, by go_grown⟩
  all_goals simp [go_sem]
set_option maxRecDepth 100000 in
set_option maxHeartbeats 2000000 in
theorem pex_5 (s : ByteArray) (w : World) :
    Calls Try.prog 26 #[.string s, .int .i64 5] w fun e w' => ∃ b l : Nat, e = .returned (.tuple #[.pointer (some ⟨b, 0, none⟩), .pointer (some ⟨l, 0, none⟩)]) ∧ (w'.cell? ⟨b, 13, none⟩ = some (.pointer (some ⟨l, 0, none⟩)) ∧ w'.cell? ⟨l, 4, none⟩ = some (.string s) ∧ SimpleIs w' b false) ∧ Below w.heap.size w w' := by
  go_enter Try.func26, Try.ntmps26
  go_wp2_with fail
  go_ret2
  refine ⟨w.heap.size + 1, w.heap.size, rfl, ⟨by simp [go_sem], by simp [go_sem], simple_5 (w.heap.size + 1) w.heap.size (0) _ ?_ ?_ ?_ ?_ ?_ ?_ ?_ ?_ ?_ ?_ ?_ ?_ ?_ ?_ ?_ ?_⟩, by go_grown⟩
  all_goals simp [go_sem]
set_option maxRecDepth 100000 in
set_option maxHeartbeats 2000000 in
theorem pex_6 (s : ByteArray) (w : World) :
    Calls Try.prog 26 #[.string s, .int .i64 6] w fun e w' => ∃ b l : Nat, e = .returned (.tuple #[.pointer (some ⟨b, 0, none⟩), .pointer (some ⟨l, 0, none⟩)]) ∧ (w'.cell? ⟨b, 13, none⟩ = some (.pointer (some ⟨l, 0, none⟩)) ∧ w'.cell? ⟨l, 4, none⟩ = some (.string s) ∧ SimpleIs w' b false) ∧ Below w.heap.size w w' := by
  go_enter Try.func26, Try.ntmps26
  go_wp2_with fail
  go_ret2
  refine ⟨w.heap.size + 1, w.heap.size, rfl, ⟨by simp [go_sem], by simp [go_sem], simple_6 (w.heap.size + 1) w.heap.size (0) _ ?_ ?_ ?_ ?_ ?_ ?_ ?_ ?_ ?_ ?_ ?_ ?_ ?_ ?_ ?_ ?_⟩, by go_grown⟩
  all_goals simp [go_sem]
set_option maxRecDepth 100000 in
set_option maxHeartbeats 2000000 in
theorem pex_7 (s : ByteArray) (w : World) :
    Calls Try.prog 26 #[.string s, .int .i64 7] w fun e w' => ∃ b l : Nat, e = .returned (.tuple #[.pointer (some ⟨b, 0, none⟩), .pointer (some ⟨l, 0, none⟩)]) ∧ (w'.cell? ⟨b, 13, none⟩ = some (.pointer (some ⟨l, 0, none⟩)) ∧ w'.cell? ⟨l, 4, none⟩ = some (.string s) ∧ SimpleIs w' b false) ∧ Below w.heap.size w w' := by
  go_enter Try.func26, Try.ntmps26
  go_wp2_with fail
  go_ret2
  refine ⟨w.heap.size + 1, w.heap.size, rfl, ⟨by simp [go_sem], by simp [go_sem], simple_7 (w.heap.size + 1) w.heap.size (0) _ ?_ ?_ ?_ ?_ ?_ ?_ ?_ ?_ ?_ ?_ ?_ ?_ ?_ ?_ ?_ ?_⟩, by go_grown⟩
  all_goals simp [go_sem]
set_option maxRecDepth 100000 in
set_option maxHeartbeats 2000000 in
theorem pex_8 (s : ByteArray) (w : World) :
    Calls Try.prog 26 #[.string s, .int .i64 8] w fun e w' => ∃ b l : Nat, e = .returned (.tuple #[.pointer (some ⟨b, 0, none⟩), .pointer (some ⟨l, 0, none⟩)]) ∧ (w'.cell? ⟨b, 13, none⟩ = some (.pointer (some ⟨l, 0, none⟩)) ∧ w'.cell? ⟨l, 4, none⟩ = some (.string s) ∧ SimpleIs w' b false) ∧ Below w.heap.size w w' := by
  go_enter Try.func26, Try.ntmps26
  go_wp2_with fail
  go_ret2
  refine ⟨w.heap.size + 1, w.heap.size, rfl, ⟨by simp [go_sem], by simp [go_sem], simple_8 (w.heap.size + 1) w.heap.size (w.heap.size + 1 + 1) _ ?_ ?_ ?_ ?_ ?_ ?_ ?_ ?_ ?_ ?_ ?_ ?_ ?_ ?_ ?_ ?_⟩, by go_grown⟩
  all_goals simp [go_sem]
set_option maxRecDepth 100000 in
set_option maxHeartbeats 2000000 in
theorem pex_9 (s : ByteArray) (w : World) :
    Calls Try.prog 26 #[.string s, .int .i64 9] w fun e w' => ∃ b l : Nat, e = .returned (.tuple #[.pointer (some ⟨b, 0, none⟩), .pointer (some ⟨l, 0, none⟩)]) ∧ (w'.cell? ⟨b, 13, none⟩ = some (.pointer (some ⟨l, 0, none⟩)) ∧ w'.cell? ⟨l, 4, none⟩ = some (.string s) ∧ SimpleIs w' b false) ∧ Below w.heap.size w w' := by
  go_enter Try.func26, Try.ntmps26
  go_wp2_with fail
  go_ret2
  refine ⟨w.heap.size + 1, w.heap.size, rfl, ⟨by simp [go_sem], by simp [go_sem], simple_9 (w.heap.size + 1) w.heap.size (w.heap.size + 1 + 1 + 1 + 1) _ ?_ ?_ ?_ ?_ ?_ ?_ ?_ ?_ ?_ ?_ ?_ ?_ ?_ ?_ ?_ ?_⟩, by go_grown⟩
  all_goals simp [go_sem]
set_option maxRecDepth 100000 in
set_option maxHeartbeats 2000000 in
theorem pex_10 (s : ByteArray) (w : World) :
    Calls Try.prog 26 #[.string s, .int .i64 10] w fun e w' => ∃ b l : Nat, e = .returned (.tuple #[.pointer (some ⟨b, 0, none⟩), .pointer (some ⟨l, 0, none⟩)]) ∧ (w'.cell? ⟨b, 13, none⟩ = some (.pointer (some ⟨l, 0, none⟩)) ∧ w'.cell? ⟨l, 4, none⟩ = some (.string s) ∧ SimpleIs w' b false) ∧ Below w.heap.size w w' := by
  go_enter Try.func26, Try.ntmps26
  go_wp2_with fail
  go_ret2
  refine ⟨w.heap.size + 1, w.heap.size, rfl, ⟨by simp [go_sem], by simp [go_sem], simple_10 (w.heap.size + 1) w.heap.size (w.heap.size + 1 + 1 + 1) _ ?_ ?_ ?_ ?_ ?_ ?_ ?_ ?_ ?_ ?_ ?_ ?_ ?_ ?_ ?_ ?_⟩, by go_grown⟩
  all_goals simp [go_sem]
set_option maxRecDepth 100000 in
set_option maxHeartbeats 2000000 in
theorem pex_11 (s : ByteArray) (w : World) :
    Calls Try.prog 26 #[.string s, .int .i64 11] w fun e w' => ∃ b l : Nat, e = .returned (.tuple #[.pointer (some ⟨b, 0, none⟩), .pointer (some ⟨l, 0, none⟩)]) ∧ (w'.cell? ⟨b, 13, none⟩ = some (.pointer (some ⟨l, 0, none⟩)) ∧ w'.cell? ⟨l, 4, none⟩ = some (.string s) ∧ SimpleIs w' b false) ∧ Below w.heap.size w w' := by
  go_enter Try.func26, Try.ntmps26
  go_wp2_with fail
  go_ret2
  refine ⟨w.heap.size + 1, w.heap.size, rfl, ⟨by simp [go_sem], by simp [go_sem], simple_11 (w.heap.size + 1) w.heap.size (w.heap.size + 1 + 1) _ ?_ ?_ ?_ ?_ ?_ ?_ ?_ ?_ ?_ ?_ ?_ ?_ ?_ ?_ ?_ ?_⟩, by go_grown⟩
  all_goals simp [go_sem]
set_option maxRecDepth 100000 in
set_option maxHeartbeats 2000000 in
theorem pex_12 (s : ByteArray) (w : World) :
    Calls Try.prog 26 #[.string s, .int .i64 12] w fun e w' => ∃ b l : Nat, e = .returned (.tuple #[.pointer (some ⟨b, 0, none⟩), .pointer (some ⟨l, 0, none⟩)]) ∧ (w'.cell? ⟨b, 13, none⟩ = some (.pointer (some ⟨l, 0, none⟩)) ∧ w'.cell? ⟨l, 4, none⟩ = some (.string s) ∧ SimpleIs w' b false) ∧ Below w.heap.size w w' := by
  go_enter Try.func26, Try.ntmps26
  go_wp2_with fail
  go_ret2
  refine ⟨w.heap.size + 1, w.heap.size, rfl, ⟨by simp [go_sem], by simp [go_sem], simple_12 (w.heap.size + 1) w.heap.size (w.heap.size + 1 + 1) _ ?_ ?_ ?_ ?_ ?_ ?_ ?_ ?_ ?_ ?_ ?_ ?_ ?_ ?_ ?_ ?_⟩, by go_grown⟩
  all_goals simp [go_sem]
set_option maxRecDepth 100000 in
set_option maxHeartbeats 2000000 in
theorem pex_13 (s : ByteArray) (w : World) :
    Calls Try.prog 26 #[.string s, .int .i64 13] w fun e w' => ∃ b l : Nat, e = .returned (.tuple #[.pointer (some ⟨b, 0, none⟩), .pointer (some ⟨l, 0, none⟩)]) ∧ (w'.cell? ⟨b, 13, none⟩ = some (.pointer (some ⟨l, 0, none⟩)) ∧ w'.cell? ⟨l, 4, none⟩ = some (.string s) ∧ SimpleIs w' b false) ∧ Below w.heap.size w w' := by
  go_enter Try.func26, Try.ntmps26
  go_wp2_with fail
  go_ret2
  refine ⟨w.heap.size + 1, w.heap.size, rfl, ⟨by simp [go_sem], by simp [go_sem], simple_13 (w.heap.size + 1) w.heap.size (0) _ ?_ ?_ ?_ ?_ ?_ ?_ ?_ ?_ ?_ ?_ ?_ ?_ ?_ ?_ ?_ ?_⟩, by go_grown⟩
  all_goals simp [go_sem]
set_option maxRecDepth 100000 in
set_option maxHeartbeats 2000000 in
theorem pex_14 (s : ByteArray) (w : World) :
    Calls Try.prog 26 #[.string s, .int .i64 14] w fun e w' => ∃ b l : Nat, e = .returned (.tuple #[.pointer (some ⟨b, 0, none⟩), .pointer (some ⟨l, 0, none⟩)]) ∧ (w'.cell? ⟨b, 13, none⟩ = some (.pointer (some ⟨l, 0, none⟩)) ∧ w'.cell? ⟨l, 4, none⟩ = some (.string s) ∧ SimpleIs w' b false) ∧ Below w.heap.size w w' := by
  go_enter Try.func26, Try.ntmps26
  go_wp2_with fail
  go_ret2
  refine ⟨w.heap.size + 1, w.heap.size, rfl, ⟨by simp [go_sem], by simp [go_sem], simple_14 (w.heap.size + 1) w.heap.size (w.heap.size + 1 + 1) _ ?_ ?_ ?_ ?_ ?_ ?_ ?_ ?_ ?_ ?_ ?_ ?_ ?_ ?_ ?_ ?_⟩, by go_grown⟩
  all_goals simp [go_sem]
set_option maxRecDepth 100000 in
set_option maxHeartbeats 2000000 in
theorem pex_15 (s : ByteArray) (w : World) :
    Calls Try.prog 26 #[.string s, .int .i64 15] w fun e w' => ∃ b l : Nat, e = .returned (.tuple #[.pointer (some ⟨b, 0, none⟩), .pointer (some ⟨l, 0, none⟩)]) ∧ (w'.cell? ⟨b, 13, none⟩ = some (.pointer (some ⟨l, 0, none⟩)) ∧ w'.cell? ⟨l, 4, none⟩ = some (.string s) ∧ SimpleIs w' b false) ∧ Below w.heap.size w w' := by
  go_enter Try.func26, Try.ntmps26
  go_wp2_with fail
  go_ret2
  refine ⟨w.heap.size + 1, w.heap.size, rfl, ⟨by simp [go_sem], by simp [go_sem], simple_15 (w.heap.size + 1) w.heap.size (w.heap.size + 1 + 1) _ ?_ ?_ ?_ ?_ ?_ ?_ ?_ ?_ ?_ ?_ ?_ ?_ ?_ ?_ ?_ ?_⟩, by go_grown⟩
  all_goals simp [go_sem]
set_option maxRecDepth 100000 in
set_option maxHeartbeats 2000000 in
theorem pex_16 (s : ByteArray) (w : World) :
    Calls Try.prog 26 #[.string s, .int .i64 16] w fun e w' => ∃ b l : Nat, e = .returned (.tuple #[.pointer (some ⟨b, 0, none⟩), .pointer (some ⟨l, 0, none⟩)]) ∧ (w'.cell? ⟨b, 13, none⟩ = some (.pointer none)) ∧ Below w.heap.size w w' := by
  go_enter Try.func26, Try.ntmps26
  go_wp2_with fail
  go_ret2
  exact ⟨_, _, rfl, by simp [go_sem], by go_grown⟩
/-- the builder, for each kind of extra -/
theorem pex_any (s : ByteArray) (k : Nat) (w : World) (hk : k ≤ 16) :
    Calls Try.prog 26 #[.string s, .int .i64 k] w fun e w' => ∃ b l : Nat, e = .returned (.tuple #[.pointer (some ⟨b, 0, none⟩), .pointer (some ⟨l, 0, none⟩)]) ∧
      (w'.cell? ⟨b, 13, none⟩ = some (.pointer none) ∨ (w'.cell? ⟨b, 13, none⟩ = some (.pointer (some ⟨l, 0, none⟩)) ∧ w'.cell? ⟨l, 4, none⟩ = some (.string s) ∧ ∃ t, SimpleIs w' b t)) ∧ Below w.heap.size w w' := by
  have h : k = 0 ∨ k = 1 ∨ k = 2 ∨ k = 3 ∨ k = 4 ∨ k = 5 ∨ k = 6 ∨ k = 7 ∨ k = 8 ∨ k = 9 ∨ k = 10 ∨ k = 11 ∨ k = 12 ∨ k = 13 ∨ k = 14 ∨ k = 15 ∨ k = 16 := by omega
  rcases h with rfl | rfl | rfl | rfl | rfl | rfl | rfl | rfl | rfl | rfl | rfl | rfl | rfl | rfl | rfl | rfl | rfl
  · exact (pex_0 s w).mono fun e w' ⟨b, l, he, ⟨h1, h2, h3⟩, hb⟩ => ⟨b, l, he, .inr ⟨h1, h2, _, h3⟩, hb⟩
  · exact (pex_1 s w).mono fun e w' ⟨b, l, he, ⟨h1, h2, h3⟩, hb⟩ => ⟨b, l, he, .inr ⟨h1, h2, _, h3⟩, hb⟩
  · exact (pex_2 s w).mono fun e w' ⟨b, l, he, ⟨h1, h2, h3⟩, hb⟩ => ⟨b, l, he, .inr ⟨h1, h2, _, h3⟩, hb⟩
  · exact (pex_3 s w).mono fun e w' ⟨b, l, he, ⟨h1, h2, h3⟩, hb⟩ => ⟨b, l, he, .inr ⟨h1, h2, _, h3⟩, hb⟩
  · exact (pex_4 s w).mono fun e w' ⟨b, l, he, ⟨h1, h2, h3⟩, hb⟩ => ⟨b, l, he, .inr ⟨h1, h2, _, h3⟩, hb⟩
  · exact (pex_5 s w).mono fun e w' ⟨b, l, he, ⟨h1, h2, h3⟩, hb⟩ => ⟨b, l, he, .inr ⟨h1, h2, _, h3⟩, hb⟩
  · exact (pex_6 s w).mono fun e w' ⟨b, l, he, ⟨h1, h2, h3⟩, hb⟩ => ⟨b, l, he, .inr ⟨h1, h2, _, h3⟩, hb⟩
  · exact (pex_7 s w).mono fun e w' ⟨b, l, he, ⟨h1, h2, h3⟩, hb⟩ => ⟨b, l, he, .inr ⟨h1, h2, _, h3⟩, hb⟩
  · exact (pex_8 s w).mono fun e w' ⟨b, l, he, ⟨h1, h2, h3⟩, hb⟩ => ⟨b, l, he, .inr ⟨h1, h2, _, h3⟩, hb⟩
  · exact (pex_9 s w).mono fun e w' ⟨b, l, he, ⟨h1, h2, h3⟩, hb⟩ => ⟨b, l, he, .inr ⟨h1, h2, _, h3⟩, hb⟩
  · exact (pex_10 s w).mono fun e w' ⟨b, l, he, ⟨h1, h2, h3⟩, hb⟩ => ⟨b, l, he, .inr ⟨h1, h2, _, h3⟩, hb⟩
  · exact (pex_11 s w).mono fun e w' ⟨b, l, he, ⟨h1, h2, h3⟩, hb⟩ => ⟨b, l, he, .inr ⟨h1, h2, _, h3⟩, hb⟩
  · exact (pex_12 s w).mono fun e w' ⟨b, l, he, ⟨h1, h2, h3⟩, hb⟩ => ⟨b, l, he, .inr ⟨h1, h2, _, h3⟩, hb⟩
  · exact (pex_13 s w).mono fun e w' ⟨b, l, he, ⟨h1, h2, h3⟩, hb⟩ => ⟨b, l, he, .inr ⟨h1, h2, _, h3⟩, hb⟩
  · exact (pex_14 s w).mono fun e w' ⟨b, l, he, ⟨h1, h2, h3⟩, hb⟩ => ⟨b, l, he, .inr ⟨h1, h2, _, h3⟩, hb⟩
  · exact (pex_15 s w).mono fun e w' ⟨b, l, he, ⟨h1, h2, h3⟩, hb⟩ => ⟨b, l, he, .inr ⟨h1, h2, _, h3⟩, hb⟩
  · exact (pex_16 s w).mono fun e w' ⟨b, l, he, h, hb⟩ => ⟨b, l, he, .inl h, hb⟩
end Go.Proofs.Ytdhoamfpeioieaa
