/- The walk of FnDblQuotedSpanCoversBothQuotes: the Go text returns true. Conditions: none beyond the kinds. -/
import Derived.Test.YtdphohobnmfbnaaEnds
import Derived.OpenShut
import Derived.Outline
import Derived.Deep.RegionHeld3
namespace Go.Proofs.Ytdphohobnmfbnaa.fnDblQuotedSpanCoversBothQuotes
open Go.RowKit
set_option linter.unusedVariables false

theorem plain (o1 o2 l2 : Int) (h : o1 ≤ o2) (h2 : o2 < 4294967284) (b1 : 0 ≤ o1) (hl : 0 ≤ l2) (hq : l2 / 16384 ≠ 0) :
    validB (addO o2 l2 1) (addLc o2 l2 1) = true ∧ addO o2 l2 1 = o2 + 1 ∧ lineOf (addLc o2 l2 1) = lineOf l2 := by
  have hv : validB o2 l2 = true := by simp [validB]; omega
  have hc := addCol_in l2 1
  have e1 : addO o2 l2 1 = o2 + 1 := by rw [addO, if_pos hv]; (repeat' split) <;> omega
  have e2 : addLc o2 l2 1 = l2 / 16384 * 16384 + addCol l2 1 := by rw [addLc, if_pos hv]
  rw [e1, e2]
  refine ⟨by simp [validB]; omega, rfl, by unfold lineOf; omega⟩

set_option maxHeartbeats 4000000 in
theorem walk (a0 : Int) (a1 : Int) (a2 : Int) (a3 : Int) (a4 : Bool) (w : World) (w0 : (Lit.int .u32 a0).wf = true) (w1 : (Lit.int .u32 a1).wf = true) (w2 : (Lit.int .u32 a2).wf = true) (w3 : (Lit.int .u32 a3).wf = true) :
    Calls Try.prog 5 #[.int .u32 a0, .int .u32 a1, .int .u32 a2, .int .u32 a3, .bool a4] w fun e w' => e = .returned (.bool true) ∧ Below w.heap.size w w' := by
  have b0 := bounds_u32 w0
  have b1 := bounds_u32 w1
  have b2 := bounds_u32 w2
  have b3 := bounds_u32 w3
  clear w0 w1 w2 w3
  by_cases h0 : 4294967284 ≤ a2
  · go_enter Try.func5, Try.ntmps5
    go_wp2
    go_ret
    exact ⟨rfl, by go_grown⟩
  by_cases h1 : a2 < a0
  · go_enter Try.func5, Try.ntmps5
    go_wp2
    go_ret
    exact ⟨rfl, by go_grown⟩
  by_cases h2 : a3 / 16384 = 0
  · have eh2 : (a3 / 16384 == 0) = true := by simp [h2]
    clear h2
    go_enter Try.func5, Try.ntmps5
    go_wp2
    go_ret
    exact ⟨rfl, by go_grown⟩
  have eh2 : (a3 / 16384 == 0) = false := by simp [h2]
  obtain ⟨p1, p2, p3⟩ := plain a0 a2 a3 (by omega) (by omega) b0.1 b3.1 h2
  have q2 := addLc_in a2 a3 1 b3
  have o0 : offOf a0 = a0 := by unfold offOf; rw [if_neg (by omega)]
  have o1 : offOf (a2 + 1) = a2 + 1 := by unfold offOf; rw [if_neg (by omega)]
  have d1 : decide (a0 < a2 + 1) = true := by simp; omega
  have d2 : (a2 + 1 - a0 != a2 - a0 + 1) = false := by simp; omega
  have h01 : a0 ≤ a2 := by omega
  have g1 := (show 0 ≤ a2 + 1 - a0 ∧ a2 + 1 - a0 ≤ 4294967295 by omega)
  have g2 := (show 0 ≤ a2 - a0 ∧ a2 - a0 ≤ 4294967295 by omega)
  have P2 := Lib.hid p2
  rw [p2] at p1
  clear h2 p2
  go_enter Try.func5, Try.ntmps5
  go_wp2_with (first | (go_at_call 25; go_in))
  refine (dblPos_at _ a0 a1 _ ?_ ?_ ?_).mono ?_
  iterate 3 (simp [go_sem])
  rintro e w' ⟨rfl, rfl⟩
  go_wp2_with fail
  refine (dblEnd_any _ _ _ _ b2 b3 ?_ ?_ ?_).mono ?_
  iterate 3 (simp [go_sem])
  rintro e w1 ⟨rfl, hb1⟩
  rw [P2.out]
  generalize addLc a2 a3 1 = lc at *
  obtain ⟨S, hS, hSn, hSB, hSc⟩ := cells_after w _ _ hb1 [(⟨w.heap.size + 1 + 1, 2, none⟩, .int .u32 a2), (⟨w.heap.size + 1 + 1, 3, none⟩, .int .u32 a3), (⟨w.heap.size + 1 + 1 + 1 + 1, 0, none⟩, .int .u32 a0), (⟨w.heap.size + 1 + 1 + 1 + 1, 1, none⟩, .int .u32 a1)] (by go_grown) (by simp [go_sem])
  have HC := Lib.hid (show ∀ W, S W → W.cell? ⟨w.heap.size + 1 + 1, 2, none⟩ = some (.int .u32 a2) ∧ W.cell? ⟨w.heap.size + 1 + 1, 3, none⟩ = some (.int .u32 a3) ∧ W.cell? ⟨w.heap.size + 1 + 1 + 1 + 1, 0, none⟩ = some (.int .u32 a0) ∧ W.cell? ⟨w.heap.size + 1 + 1 + 1 + 1, 1, none⟩ = some (.int .u32 a1) ∧ w.heap.size + 1 + 1 < W.heap.size ∧ w.heap.size + 1 + 1 + 1 + 1 < W.heap.size from fun W h => ⟨(hSc W h (⟨w.heap.size + 1 + 1, 2, none⟩, .int .u32 a2) (by simp)).1, (hSc W h (⟨w.heap.size + 1 + 1, 3, none⟩, .int .u32 a3) (by simp)).1, (hSc W h (⟨w.heap.size + 1 + 1 + 1 + 1, 0, none⟩, .int .u32 a0) (by simp)).1, (hSc W h (⟨w.heap.size + 1 + 1 + 1 + 1, 1, none⟩, .int .u32 a1) (by simp)).1, (hSc W h (⟨w.heap.size + 1 + 1, 2, none⟩, .int .u32 a2) (by simp)).2, (hSc W h (⟨w.heap.size + 1 + 1 + 1 + 1, 0, none⟩, .int .u32 a0) (by simp)).2⟩)
  have HN := Lib.hid hSn
  have HB := Lib.hid hSB
  clear hSn hSB hSc hb1 
  obtain ⟨c0, c1, c2, c3, z0, z1⟩ := HC.out _ hS
  go_wp2_with fail
  refine (isValid_any _ _ _ (by omega) q2).mono ?_
  rintro e w2 ⟨rfl, hb2⟩
  have hBw := HB.out _ hS
  clear HC HN HB
  obtain ⟨S, hS, hSn, hSB, hSc⟩ := cells_after w _ _ hb2 [(⟨w.heap.size + 1 + 1, 2, none⟩, .int .u32 a2), (⟨w.heap.size + 1 + 1, 3, none⟩, .int .u32 a3), (⟨w.heap.size + 1 + 1 + 1 + 1, 0, none⟩, .int .u32 a0), (⟨w.heap.size + 1 + 1 + 1 + 1, 1, none⟩, .int .u32 a1), (⟨w1.heap.size, 0, none⟩, .int .u32 (a2 + 1)), (⟨w1.heap.size, 1, none⟩, .int .u32 lc)] (by go_grown) (by intro p hp; simp only [List.mem_cons, List.not_mem_nil, or_false] at hp; rcases hp with rfl | rfl | rfl | rfl | rfl | rfl <;> exact ⟨by first | assumption | (simp [go_sem]; done) | (refine cell_alloc ?_; assumption) | (refine cell_alloc (cell_alloc ?_); assumption) | (refine cell_alloc (cell_alloc (cell_alloc ?_)); assumption), by first | (simp; omega) | (simp; done)⟩)
  have HC := Lib.hid (show ∀ W, S W → W.cell? ⟨w.heap.size + 1 + 1, 2, none⟩ = some (.int .u32 a2) ∧ W.cell? ⟨w.heap.size + 1 + 1, 3, none⟩ = some (.int .u32 a3) ∧ W.cell? ⟨w.heap.size + 1 + 1 + 1 + 1, 0, none⟩ = some (.int .u32 a0) ∧ W.cell? ⟨w.heap.size + 1 + 1 + 1 + 1, 1, none⟩ = some (.int .u32 a1) ∧ W.cell? ⟨w1.heap.size, 0, none⟩ = some (.int .u32 (a2 + 1)) ∧ W.cell? ⟨w1.heap.size, 1, none⟩ = some (.int .u32 lc) ∧ w.heap.size + 1 + 1 < W.heap.size ∧ w.heap.size + 1 + 1 + 1 + 1 < W.heap.size ∧ w1.heap.size < W.heap.size from fun W h => ⟨(hSc W h (⟨w.heap.size + 1 + 1, 2, none⟩, .int .u32 a2) (by simp)).1, (hSc W h (⟨w.heap.size + 1 + 1, 3, none⟩, .int .u32 a3) (by simp)).1, (hSc W h (⟨w.heap.size + 1 + 1 + 1 + 1, 0, none⟩, .int .u32 a0) (by simp)).1, (hSc W h (⟨w.heap.size + 1 + 1 + 1 + 1, 1, none⟩, .int .u32 a1) (by simp)).1, (hSc W h (⟨w1.heap.size, 0, none⟩, .int .u32 (a2 + 1)) (by simp)).1, (hSc W h (⟨w1.heap.size, 1, none⟩, .int .u32 lc) (by simp)).1, (hSc W h (⟨w.heap.size + 1 + 1, 2, none⟩, .int .u32 a2) (by simp)).2, (hSc W h (⟨w.heap.size + 1 + 1 + 1 + 1, 0, none⟩, .int .u32 a0) (by simp)).2, (hSc W h (⟨w1.heap.size, 0, none⟩, .int .u32 (a2 + 1)) (by simp)).2⟩)
  have HN := Lib.hid hSn
  have HB := Lib.hid hSB
  clear hSn hSB hSc hb2 c0 c1 c2 c3 z0 z1
  obtain ⟨c0, c1, c2, c3, c4, c5, z0, z1, z2⟩ := HC.out _ hS
  go_wp2_with fail
  refine (after_any _ _ _ _ _ (by omega) q2).mono ?_
  rintro e wN ⟨rfl, hbN⟩
  have hS := HN.out _ _ hS hbN
  clear hbN c0 c1 c2 c3 c4 c5 z0 z1 z2
  obtain ⟨c0, c1, c2, c3, c4, c5, z0, z1, z2⟩ := HC.out _ hS
  go_wp2_with fail
  have i1 : 0 ≤ a2 + 1 ∧ a2 + 1 ≤ 4294967295 := by omega
  have v1 := IntWalk.u64_in (a2 + 1 - a0) (by omega)
  have v2 := IntWalk.u32_in (a2 - a0) (by omega)
  have v3 := IntWalk.u64_in (a2 - a0) (by omega)
  have v4 := IntWalk.u64_in (a2 - a0 + 1) (by omega)
  go_region_held3 (fun W9 => S W9 ∧ W9.cell? ⟨w.heap.size + 1 + 1, 2, none⟩ = some (.int .u32 a2) ∧ W9.cell? ⟨w.heap.size + 1 + 1, 3, none⟩ = some (.int .u32 a3) ∧ W9.cell? ⟨w.heap.size + 1 + 1 + 1 + 1, 0, none⟩ = some (.int .u32 a0) ∧ W9.cell? ⟨w.heap.size + 1 + 1 + 1 + 1, 1, none⟩ = some (.int .u32 a1) ∧ W9.cell? ⟨w1.heap.size, 0, none⟩ = some (.int .u32 (a2 + 1)) ∧ W9.cell? ⟨w1.heap.size, 1, none⟩ = some (.int .u32 lc))
    (first | (have hS9 := hS; exact ⟨hS9, c0, c1, c2, c3, c4, c5⟩) | (have hS9 := HN.out _ _ hS (below_drew _); obtain ⟨c0, c1, c2, c3, c4, c5, z0, z1, z2⟩ := HC.out _ hS9; exact ⟨hS9, c0, c1, c2, c3, c4, c5⟩))
    (first | (go_at_call 18; refine (offset_any _ _ _ (by assumption)).mono ?_; rintro e wN ⟨rfl, hbN⟩; have hS := HN.out _ _ (And.left (by assumption)) hbN; clear hbN; obtain ⟨c0, c1, c2, c3, c4, c5, z0, z1, z2⟩ := HC.out _ hS))
  go_wp2_with fail
  clear v1 v2 v3 v4
  go_region_held3 (fun W9 => S W9 ∧ W9.cell? ⟨w.heap.size + 1 + 1, 2, none⟩ = some (.int .u32 a2) ∧ W9.cell? ⟨w.heap.size + 1 + 1, 3, none⟩ = some (.int .u32 a3) ∧ W9.cell? ⟨w.heap.size + 1 + 1 + 1 + 1, 0, none⟩ = some (.int .u32 a0) ∧ W9.cell? ⟨w.heap.size + 1 + 1 + 1 + 1, 1, none⟩ = some (.int .u32 a1) ∧ W9.cell? ⟨w1.heap.size, 0, none⟩ = some (.int .u32 (a2 + 1)) ∧ W9.cell? ⟨w1.heap.size, 1, none⟩ = some (.int .u32 lc))
    (first | (have hS9 := hS; exact ⟨hS9, c0, c1, c2, c3, c4, c5⟩) | (have hS9 := HN.out _ _ hS (below_drew _); obtain ⟨c0, c1, c2, c3, c4, c5, z0, z1, z2⟩ := HC.out _ hS9; exact ⟨hS9, c0, c1, c2, c3, c4, c5⟩))
    (first | (go_at_call 19; refine (line_any _ _ _ (by omega)).mono ?_; rintro e wN ⟨rfl, hbN⟩; have hS := HN.out _ _ (And.left (by assumption)) hbN; clear hbN; obtain ⟨c0, c1, c2, c3, c4, c5, z0, z1, z2⟩ := HC.out _ hS))
  go_wp2_with fail
  go_ret
  exact ⟨rfl, HB.out _ hS⟩
end Go.Proofs.Ytdphohobnmfbnaa.fnDblQuotedSpanCoversBothQuotes
