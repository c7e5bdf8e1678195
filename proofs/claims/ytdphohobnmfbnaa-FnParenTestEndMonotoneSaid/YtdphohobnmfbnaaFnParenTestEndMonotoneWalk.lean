/- The walk of FnParenTestEndMonotone: the Go text returns true. Conditions: none beyond the kinds. -/
import Derived.Test.YtdphohobnmfbnaaEnds
import Derived.OpenShut
import Derived.Outline
import Derived.Deep.RegionHeld3
import Derived.Deep.QuietTactic
import Derived.BigQuiet
namespace Go.Proofs.Ytdphohobnmfbnaa.fnParenTestEndMonotone
open Go.RowKit
set_option linter.unusedVariables false

theorem plain (o1 l1 o2 l2 : Int) (h : o1 ≤ o2) (h1 : o1 ≤ 4294967284) (h2 : o2 ≤ 4294967284) (b1 : 0 ≤ o1) (n1 : l1 ≠ 0) (n2 : l2 ≠ 0) :
    addO o1 l1 1 ≤ addO o2 l2 1 ∧ o1 ≤ addO o1 l1 1 ∧ addO o2 l2 1 ≤ 4294967284 ∧ (o1 < 4294967284 → o1 < addO o1 l1 1) ∧ lineOf (addLc o1 l1 1) = lineOf l1 := by
  have hv : validB o1 l1 = true := by simp [validB]; omega
  have hv2 : validB o2 l2 = true := by simp [validB]; omega
  have hc := addCol_in l1 1
  have e2 : addLc o1 l1 1 = l1 / 16384 * 16384 + addCol l1 1 := by rw [addLc, if_pos hv]
  rw [e2, addO, if_pos hv, addO, if_pos hv2]
  refine ⟨?_, ?_, ?_, ?_, by unfold lineOf; omega⟩
  all_goals
    repeat' split
    all_goals omega

set_option maxHeartbeats 8000000 in
theorem walk (a0 : Int) (a1 : Int) (a2 : Int) (a3 : Int) (w : World) (w0 : (Lit.int .u32 a0).wf = true) (w1 : (Lit.int .u32 a1).wf = true) (w2 : (Lit.int .u32 a2).wf = true) (w3 : (Lit.int .u32 a3).wf = true) :
    Calls Try.prog 6 #[.int .u32 a0, .int .u32 a1, .int .u32 a2, .int .u32 a3] w fun e w' => e = .returned (.bool true) ∧ Below w.heap.size w w' := by
  have b0 := bounds_u32 w0
  have b1 := bounds_u32 w1
  have b2 := bounds_u32 w2
  have b3 := bounds_u32 w3
  clear w0 w1 w2 w3
  by_cases h0 : 4294967284 < a0
  · go_enter Try.func6, Try.ntmps6
    go_wp2
    go_ret
    exact ⟨rfl, by go_grown⟩
  by_cases h1 : a1 = 0
  · have eh1 : (a1 == 0) = true := by simp [h1]
    clear h1
    go_enter Try.func6, Try.ntmps6
    go_wp2
    go_ret
    exact ⟨rfl, by go_grown⟩
  have eh1 : (a1 == 0) = false := by simp [h1]
  by_cases h2 : 4294967284 < a2
  · go_enter Try.func6, Try.ntmps6
    go_wp2
    go_ret
    exact ⟨rfl, by go_grown⟩
  by_cases h3 : a3 = 0
  · have eh3 : (a3 == 0) = true := by simp [h3]
    clear h3
    go_enter Try.func6, Try.ntmps6
    go_wp2
    go_ret
    exact ⟨rfl, by go_grown⟩
  have eh3 : (a3 == 0) = false := by simp [h3]
  by_cases h4 : a2 < a0
  · go_enter Try.func6, Try.ntmps6
    go_wp2
    go_ret
    exact ⟨rfl, by go_grown⟩
  obtain ⟨p1, p2, p3, p4, p5⟩ := plain a0 a1 a2 a3 (by omega) (by omega) (by omega) b0.1 h1 h3
  have qa := addO_in a0 a1 1 b0
  have qb := addO_in a2 a3 1 b2
  have ra := addLc_in a0 a1 1 b1
  have rb := addLc_in a2 a3 1 b3
  have o0 : offOf a0 = a0 := by unfold offOf; rw [if_neg (by omega)]
  have P4 := Lib.hid p4
  clear p4
  go_enter Try.func6, Try.ntmps6
  go_wp2_with (first | (go_at_call 28; go_in))
  refine (parenTestEnd_any _ _ _ _ b0 b1 ?_ ?_ ?_).mono ?_
  iterate 3 (simp [go_sem])
  rintro e w1 ⟨rfl, hb1⟩
  generalize addO a0 a1 1 = x at *
  generalize addLc a0 a1 1 = xl at *
  obtain ⟨S, hS, hSn, hSB, hSc⟩ := cells_after w _ _ hb1 [(⟨w.heap.size + 1, 0, none⟩, .int .u32 a0), (⟨w.heap.size + 1, 1, none⟩, .int .u32 a1), (⟨w.heap.size + 1 + 1 + 1, 0, none⟩, .int .u32 a2), (⟨w.heap.size + 1 + 1 + 1, 1, none⟩, .int .u32 a3)] (by go_grown) (by simp [go_sem])
  have HC := Lib.hid (show ∀ W, S W → W.cell? ⟨w.heap.size + 1, 0, none⟩ = some (.int .u32 a0) ∧ W.cell? ⟨w.heap.size + 1, 1, none⟩ = some (.int .u32 a1) ∧ W.cell? ⟨w.heap.size + 1 + 1 + 1, 0, none⟩ = some (.int .u32 a2) ∧ W.cell? ⟨w.heap.size + 1 + 1 + 1, 1, none⟩ = some (.int .u32 a3) ∧ w.heap.size + 1 < W.heap.size ∧ w.heap.size + 1 + 1 + 1 < W.heap.size from fun W h => ⟨(hSc W h (⟨w.heap.size + 1, 0, none⟩, .int .u32 a0) (by simp)).1, (hSc W h (⟨w.heap.size + 1, 1, none⟩, .int .u32 a1) (by simp)).1, (hSc W h (⟨w.heap.size + 1 + 1 + 1, 0, none⟩, .int .u32 a2) (by simp)).1, (hSc W h (⟨w.heap.size + 1 + 1 + 1, 1, none⟩, .int .u32 a3) (by simp)).1, (hSc W h (⟨w.heap.size + 1, 0, none⟩, .int .u32 a0) (by simp)).2, (hSc W h (⟨w.heap.size + 1 + 1 + 1, 0, none⟩, .int .u32 a2) (by simp)).2⟩)
  have HN := Lib.hid hSn
  have HB := Lib.hid hSB
  clear hSn hSB hSc hb1 
  obtain ⟨c0, c1, c2, c3, z0, z1⟩ := HC.out _ hS
  go_wp2_with fail
  refine (parenTestEnd_any _ a2 a3 _ b2 b3 ?_ ?_ ?_).mono ?_
  iterate 3 (simp [go_sem])
  rintro e w2 ⟨rfl, hb2⟩
  generalize addO a2 a3 1 = y at *
  generalize addLc a2 a3 1 = yl at *
  have hBw := HB.out _ hS
  clear HC HN HB
  obtain ⟨S, hS, hSn, hSB, hSc⟩ := cells_after w _ _ hb2 [(⟨w.heap.size + 1, 0, none⟩, .int .u32 a0), (⟨w.heap.size + 1, 1, none⟩, .int .u32 a1), (⟨w1.heap.size, 0, none⟩, .int .u32 x), (⟨w1.heap.size, 1, none⟩, .int .u32 xl)] (by go_grown) (by intro p hp; simp only [List.mem_cons, List.not_mem_nil, or_false] at hp; rcases hp with rfl | rfl | rfl | rfl <;> exact ⟨by first | assumption | (simp [go_sem]; done) | (refine cell_alloc ?_; assumption) | (refine cell_alloc (cell_alloc ?_); assumption) | (refine cell_alloc (cell_alloc (cell_alloc ?_)); assumption), by first | (simp; omega) | (simp; done)⟩)
  have HC := Lib.hid (show ∀ W, S W → W.cell? ⟨w.heap.size + 1, 0, none⟩ = some (.int .u32 a0) ∧ W.cell? ⟨w.heap.size + 1, 1, none⟩ = some (.int .u32 a1) ∧ W.cell? ⟨w1.heap.size, 0, none⟩ = some (.int .u32 x) ∧ W.cell? ⟨w1.heap.size, 1, none⟩ = some (.int .u32 xl) ∧ w.heap.size + 1 < W.heap.size ∧ w1.heap.size < W.heap.size from fun W h => ⟨(hSc W h (⟨w.heap.size + 1, 0, none⟩, .int .u32 a0) (by simp)).1, (hSc W h (⟨w.heap.size + 1, 1, none⟩, .int .u32 a1) (by simp)).1, (hSc W h (⟨w1.heap.size, 0, none⟩, .int .u32 x) (by simp)).1, (hSc W h (⟨w1.heap.size, 1, none⟩, .int .u32 xl) (by simp)).1, (hSc W h (⟨w.heap.size + 1, 0, none⟩, .int .u32 a0) (by simp)).2, (hSc W h (⟨w1.heap.size, 0, none⟩, .int .u32 x) (by simp)).2⟩)
  have HN := Lib.hid hSn
  have HB := Lib.hid hSB
  clear hSn hSB hSc hb2 c0 c1 c2 c3 z0 z1
  obtain ⟨c0, c1, c2, c3, z0, z1⟩ := HC.out _ hS
  go_wp2_with fail
  have hBw := HB.out _ hS
  clear HC HN HB
  obtain ⟨S, hS, hSn, hSB, hSc⟩ := cells_word w (w2.alloc (.cells #[.int .u32 y, .int .u32 yl] 25)) [(⟨w.heap.size + 1, 0, none⟩, .int .u32 a0), (⟨w.heap.size + 1, 1, none⟩, .int .u32 a1), (⟨w1.heap.size, 0, none⟩, .int .u32 x), (⟨w1.heap.size, 1, none⟩, .int .u32 xl), (⟨w2.heap.size, 0, none⟩, .int .u32 y), (⟨w2.heap.size, 1, none⟩, .int .u32 yl)] (by go_grown) (by intro p hp; simp only [List.mem_cons, List.not_mem_nil, or_false] at hp; rcases hp with rfl | rfl | rfl | rfl | rfl | rfl <;> exact ⟨by first | assumption | (simp [go_sem]; done) | (refine cell_alloc ?_; assumption) | (refine cell_alloc (cell_alloc ?_); assumption) | (refine cell_alloc (cell_alloc (cell_alloc ?_)); assumption), by first | (simp; omega) | (simp; done)⟩)
  have HC := Lib.hid (show ∀ W, S W → W.cell? ⟨w.heap.size + 1, 0, none⟩ = some (.int .u32 a0) ∧ W.cell? ⟨w.heap.size + 1, 1, none⟩ = some (.int .u32 a1) ∧ W.cell? ⟨w1.heap.size, 0, none⟩ = some (.int .u32 x) ∧ W.cell? ⟨w1.heap.size, 1, none⟩ = some (.int .u32 xl) ∧ W.cell? ⟨w2.heap.size, 0, none⟩ = some (.int .u32 y) ∧ W.cell? ⟨w2.heap.size, 1, none⟩ = some (.int .u32 yl) ∧ w.heap.size + 1 < W.heap.size ∧ w1.heap.size < W.heap.size ∧ w2.heap.size < W.heap.size from fun W h => ⟨(hSc W h (⟨w.heap.size + 1, 0, none⟩, .int .u32 a0) (by simp)).1, (hSc W h (⟨w.heap.size + 1, 1, none⟩, .int .u32 a1) (by simp)).1, (hSc W h (⟨w1.heap.size, 0, none⟩, .int .u32 x) (by simp)).1, (hSc W h (⟨w1.heap.size, 1, none⟩, .int .u32 xl) (by simp)).1, (hSc W h (⟨w2.heap.size, 0, none⟩, .int .u32 y) (by simp)).1, (hSc W h (⟨w2.heap.size, 1, none⟩, .int .u32 yl) (by simp)).1, (hSc W h (⟨w.heap.size + 1, 0, none⟩, .int .u32 a0) (by simp)).2, (hSc W h (⟨w1.heap.size, 0, none⟩, .int .u32 x) (by simp)).2, (hSc W h (⟨w2.heap.size, 0, none⟩, .int .u32 y) (by simp)).2⟩)
  have HN := Lib.hid hSn
  have HB := Lib.hid hSB
  clear hSn hSB hSc  c0 c1 c2 c3 z0 z1
  obtain ⟨c0, c1, c2, c3, c4, c5, z0, z1, z2⟩ := HC.out _ hS
  have ox : offOf x = x := by unfold offOf; rw [if_neg (by omega)]
  have oy : offOf y = y := by unfold offOf; rw [if_neg (by omega)]
  go_region_held3 (fun W9 => S W9 ∧ W9.cell? ⟨w.heap.size + 1, 0, none⟩ = some (.int .u32 a0) ∧ W9.cell? ⟨w.heap.size + 1, 1, none⟩ = some (.int .u32 a1) ∧ W9.cell? ⟨w1.heap.size, 0, none⟩ = some (.int .u32 x) ∧ W9.cell? ⟨w1.heap.size, 1, none⟩ = some (.int .u32 xl) ∧ W9.cell? ⟨w2.heap.size, 0, none⟩ = some (.int .u32 y) ∧ W9.cell? ⟨w2.heap.size, 1, none⟩ = some (.int .u32 yl))
    (first | (have hS9 := hS; exact ⟨hS9, c0, c1, c2, c3, c4, c5⟩) | (have hS9 := HN.out _ _ hS (below_drew _); obtain ⟨c0, c1, c2, c3, c4, c5, z0, z1, z2⟩ := HC.out _ hS9; exact ⟨hS9, c0, c1, c2, c3, c4, c5⟩))
    (first | (go_at_call 18; refine (offset_any _ _ _ (by assumption)).mono ?_; rintro e wN ⟨rfl, hbN⟩; have hS := HN.out _ _ (And.left (by assumption)) hbN; clear hbN; obtain ⟨c0, c1, c2, c3, c4, c5, z0, z1, z2⟩ := HC.out _ hS))
  go_wp2_with fail
  go_region_held3 (fun W9 => S W9 ∧ W9.cell? ⟨w.heap.size + 1, 0, none⟩ = some (.int .u32 a0) ∧ W9.cell? ⟨w.heap.size + 1, 1, none⟩ = some (.int .u32 a1) ∧ W9.cell? ⟨w1.heap.size, 0, none⟩ = some (.int .u32 x) ∧ W9.cell? ⟨w1.heap.size, 1, none⟩ = some (.int .u32 xl) ∧ W9.cell? ⟨w2.heap.size, 0, none⟩ = some (.int .u32 y) ∧ W9.cell? ⟨w2.heap.size, 1, none⟩ = some (.int .u32 yl))
    (first | (have hS9 := hS; exact ⟨hS9, c0, c1, c2, c3, c4, c5⟩) | (have hS9 := HN.out _ _ hS (below_drew _); obtain ⟨c0, c1, c2, c3, c4, c5, z0, z1, z2⟩ := HC.out _ hS9; exact ⟨hS9, c0, c1, c2, c3, c4, c5⟩))
    (first | (go_at_call 18; refine (offset_any _ _ _ (by assumption)).mono ?_; rintro e wN ⟨rfl, hbN⟩; have hS := HN.out _ _ (And.left (by assumption)) hbN; clear hbN; obtain ⟨c0, c1, c2, c3, c4, c5, z0, z1, z2⟩ := HC.out _ hS))
  go_wp2_with fail
  by_cases h5 : a0 < 4294967284
  · have p4 := P4.out h5
    go_region_held3 (fun W9 => S W9 ∧ W9.cell? ⟨w.heap.size + 1, 0, none⟩ = some (.int .u32 a0) ∧ W9.cell? ⟨w.heap.size + 1, 1, none⟩ = some (.int .u32 a1) ∧ W9.cell? ⟨w1.heap.size, 0, none⟩ = some (.int .u32 x) ∧ W9.cell? ⟨w1.heap.size, 1, none⟩ = some (.int .u32 xl) ∧ W9.cell? ⟨w2.heap.size, 0, none⟩ = some (.int .u32 y) ∧ W9.cell? ⟨w2.heap.size, 1, none⟩ = some (.int .u32 yl))
      (first | (have hS9 := hS; exact ⟨hS9, c0, c1, c2, c3, c4, c5⟩) | (have hS9 := HN.out _ _ hS (below_drew _); obtain ⟨c0, c1, c2, c3, c4, c5, z0, z1, z2⟩ := HC.out _ hS9; exact ⟨hS9, c0, c1, c2, c3, c4, c5⟩))
      (first | (go_at_call 18; refine (offset_any _ _ _ (by assumption)).mono ?_; rintro e wN ⟨rfl, hbN⟩; have hS := HN.out _ _ (And.left (by assumption)) hbN; clear hbN; obtain ⟨c0, c1, c2, c3, c4, c5, z0, z1, z2⟩ := HC.out _ hS))
    go_wp2_with fail
    go_region_held3 (fun W9 => S W9 ∧ W9.cell? ⟨w.heap.size + 1, 0, none⟩ = some (.int .u32 a0) ∧ W9.cell? ⟨w.heap.size + 1, 1, none⟩ = some (.int .u32 a1) ∧ W9.cell? ⟨w1.heap.size, 0, none⟩ = some (.int .u32 x) ∧ W9.cell? ⟨w1.heap.size, 1, none⟩ = some (.int .u32 xl) ∧ W9.cell? ⟨w2.heap.size, 0, none⟩ = some (.int .u32 y) ∧ W9.cell? ⟨w2.heap.size, 1, none⟩ = some (.int .u32 yl))
      (first | (have hS9 := hS; exact ⟨hS9, c0, c1, c2, c3, c4, c5⟩) | (have hS9 := HN.out _ _ hS (below_drew _); obtain ⟨c0, c1, c2, c3, c4, c5, z0, z1, z2⟩ := HC.out _ hS9; exact ⟨hS9, c0, c1, c2, c3, c4, c5⟩))
      (first | (go_at_call 19; refine (line_any _ _ _ (by assumption)).mono ?_; rintro e wN ⟨rfl, hbN⟩; have hS := HN.out _ _ (And.left (by assumption)) hbN; clear hbN; obtain ⟨c0, c1, c2, c3, c4, c5, z0, z1, z2⟩ := HC.out _ hS))
    go_wp2_with fail
    go_ret
    exact ⟨rfl, HB.out _ hS⟩
  · have d5 : decide (a0 < 4294967284) = false := by simpa using h5
    go_quiet (fail)
    rename_i nq
    have hS := HN.out _ _ hS (below_drewN _ nq)
    obtain ⟨c0, c1, c2, c3, c4, c5, z0, z1, z2⟩ := HC.out _ hS
    go_wp2_with fail
    go_region_held3 (fun W9 => S W9 ∧ W9.cell? ⟨w.heap.size + 1, 0, none⟩ = some (.int .u32 a0) ∧ W9.cell? ⟨w.heap.size + 1, 1, none⟩ = some (.int .u32 a1) ∧ W9.cell? ⟨w1.heap.size, 0, none⟩ = some (.int .u32 x) ∧ W9.cell? ⟨w1.heap.size, 1, none⟩ = some (.int .u32 xl) ∧ W9.cell? ⟨w2.heap.size, 0, none⟩ = some (.int .u32 y) ∧ W9.cell? ⟨w2.heap.size, 1, none⟩ = some (.int .u32 yl))
      (first | (have hS9 := hS; exact ⟨hS9, c0, c1, c2, c3, c4, c5⟩) | (have hS9 := HN.out _ _ hS (below_drew _); obtain ⟨c0, c1, c2, c3, c4, c5, z0, z1, z2⟩ := HC.out _ hS9; exact ⟨hS9, c0, c1, c2, c3, c4, c5⟩))
      (first | (go_at_call 19; refine (line_any _ _ _ (by assumption)).mono ?_; rintro e wN ⟨rfl, hbN⟩; have hS := HN.out _ _ (And.left (by assumption)) hbN; clear hbN; obtain ⟨c0, c1, c2, c3, c4, c5, z0, z1, z2⟩ := HC.out _ hS))
    go_wp2_with fail
    go_ret
    exact ⟨rfl, HB.out _ hS⟩
end Go.Proofs.Ytdphohobnmfbnaa.fnParenTestEndMonotone
