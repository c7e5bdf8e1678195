/- The walk of FnStmtEndAfterPos: the Go text returns true. Conditions: none beyond the kinds. -/
import Derived.Test.YtdphohobnmfbnaaStmtEnd
import Derived.Deep.RegionHeld3
namespace Go.Proofs.Ytdphohobnmfbnaa.fnStmtEndAfterPos
open Go.RowKit
set_option linter.unusedVariables false

theorem step1 (o l : Int) (hv : validB o l = true) (b : 0 ≤ o) : ((o < 4294967284 ∧ addO o l 1 = o + 1) ∨ (o = 4294967284 ∧ addO o l 1 = o)) ∧ lineOf (addLc o l 1) = lineOf l := by
  have hv' := hv
  simp [validB] at hv'
  have hc := addCol_in l 1
  have e2 : addLc o l 1 = l / 16384 * 16384 + addCol l 1 := by rw [addLc, if_pos hv]
  rw [e2, addO, if_pos hv]
  refine ⟨?_, by unfold lineOf; omega⟩
  repeat' split
  all_goals omega

theorem plain (o l : Int) (t : Bool) (hv : validB o l = true) (b : 0 ≤ o) (h : o < 4294967284) : (endO o l t = o + 1 ∨ endO o l t = o + 2) ∧ endO o l t ≤ 4294967284 ∧ lineOf (endLc o l t) = lineOf l := by
  obtain ⟨s1, s2⟩ := step1 o l hv b
  have e1 : addO o l 1 = o + 1 := by omega
  unfold endO endLc
  cases t
  · simp only [Bool.false_eq_true, if_false]
    exact ⟨Or.inl e1, by omega, s2⟩
  · simp only [if_true]
    cases hv2 : validB (addO o l 1) (addLc o l 1)
    · have hn' : 4294967284 < addO o l 1 ∨ addLc o l 1 = 0 := by
        simp only [validB, decide_eq_false_iff_not, not_and] at hv2
        omega
      have f1 : addO (addO o l 1) (addLc o l 1) 1 = addO o l 1 := (addO_no hn').symm
      have f2 : addLc (addO o l 1) (addLc o l 1) 1 = addLc o l 1 := (addLc_no hn').symm
      rw [f1, f2]
      exact ⟨Or.inl e1, by rw [e1]; omega, s2⟩
    · obtain ⟨t1, t2⟩ := step1 _ _ hv2 (by omega)
      rw [e1] at t1
      rw [e1] at t2 ⊢
      exact ⟨by rcases t1 with ⟨g, h⟩ | ⟨g, h⟩ <;> omega, by rcases t1 with ⟨g, h⟩ | ⟨g, h⟩ <;> omega, t2.trans s2⟩

set_option maxHeartbeats 8000000 in
set_option maxRecDepth 100000 in
theorem walk (a0 : Int) (a1 : Int) (a2 : Int) (a3 : Int) (a4 : Bool) (a5 : Bool) (a6 : Bool) (a7 : Bool) (a8 : Int) (a9 : Int) (a10 : Bool) (a11 : Int) (w : World) (w0 : (Lit.int .u32 a0).wf = true) (w1 : (Lit.int .u32 a1).wf = true) (w2 : (Lit.int .u32 a2).wf = true) (w3 : (Lit.int .u32 a3).wf = true) (w8 : (Lit.int .u32 a8).wf = true) (w9 : (Lit.int .u32 a9).wf = true) (w11 : (Lit.int .u32 a11).wf = true) :
    Calls Try.prog 10 #[.int .u32 a0, .int .u32 a1, .int .u32 a2, .int .u32 a3, .bool a4, .bool a5, .bool a6, .bool a7, .int .u32 a8, .int .u32 a9, .bool a10, .int .u32 a11] w fun e w' => e = .returned (.bool true) ∧ Below w.heap.size w w' := by
  have b0 := bounds_u32 w0
  have b1 := bounds_u32 w1
  have b2 := bounds_u32 w2
  have b3 := bounds_u32 w3
  have b8 := bounds_u32 w8
  have b9 := bounds_u32 w9
  have b11 := bounds_u32 w11
  clear w0 w1 w2 w3 w8 w9 w11
  by_cases h0 : 4294967284 < a0
  · go_enter Try.func10, Try.ntmps10
    go_wp2
    go_ret
    exact ⟨rfl, by go_grown⟩
  by_cases h1 : a1 = 0
  · subst h1
    go_enter Try.func10, Try.ntmps10
    go_wp2
    go_ret
    exact ⟨rfl, by go_grown⟩
  have eh1 : (a1 != 0) = true := by simp [h1]
  by_cases h2 : 4294967284 ≤ a0
  · go_enter Try.func10, Try.ntmps10
    go_wp2
    go_ret
    exact ⟨rfl, by go_grown⟩
  by_cases h3 : a0 < a2
  · go_enter Try.func10, Try.ntmps10
    go_wp2
    go_ret
    exact ⟨rfl, by go_grown⟩
  have hv : validB a0 a1 = true := by simp [validB, h1]; omega
  obtain ⟨p1, p2, p3⟩ := plain a0 a1 (a4 || a5) hv b0.1 (by omega)
  have qo := endO_in a0 a1 (a4 || a5) b0
  have ql := endLc_in a0 a1 (a4 || a5) b1
  have oe : offOf (endO a0 a1 (a4 || a5)) = endO a0 a1 (a4 || a5) := by unfold offOf; rw [if_neg (by omega)]
  have o0 : offOf a0 = a0 := by unfold offOf; rw [if_neg (by omega)]
  have o2 : offOf a2 = a2 := by unfold offOf; rw [if_neg (by omega)]
  have P1 := Lib.hid p1
  clear h1 p1
  cases a7
  all_goals
    cases a10
    all_goals
      go_enter Try.func10, Try.ntmps10
      go_wp2_with (first | (go_at_call 40; go_in) | (go_at_call 39; go_in) | (go_at_call 41; go_in))
      refine (stmtPos_any _ a2 a3 _ ?_ ?_ ?_).mono ?_
      iterate 3 (simp [go_sem])
      rintro e w1 ⟨rfl, hb1⟩
      obtain ⟨S, hS, hSn, hSB, hSc⟩ := cells_after w _ _ hb1 [(⟨w.heap.size + 1, 0, none⟩, .int .u32 a0), (⟨w.heap.size + 1, 1, none⟩, .int .u32 a1), (⟨w.heap.size + 1 + 1 + 1, 0, none⟩, .int .u32 a2), (⟨w.heap.size + 1 + 1 + 1, 1, none⟩, .int .u32 a3), (⟨w.heap.size + 1 + 1 + 1 + 1, 4, none⟩, .int .u32 a0), (⟨w.heap.size + 1 + 1 + 1 + 1, 5, none⟩, .int .u32 a1), (⟨w.heap.size + 1 + 1 + 1 + 1, 8, none⟩, .bool a4), (⟨w.heap.size + 1 + 1 + 1 + 1, 9, none⟩, .bool a5)] (by go_grown) (by simp [go_sem])
      have HC := Lib.hid (show ∀ W, S W → W.cell? ⟨w.heap.size + 1, 0, none⟩ = some (.int .u32 a0) ∧ W.cell? ⟨w.heap.size + 1, 1, none⟩ = some (.int .u32 a1) ∧ W.cell? ⟨w.heap.size + 1 + 1 + 1, 0, none⟩ = some (.int .u32 a2) ∧ W.cell? ⟨w.heap.size + 1 + 1 + 1, 1, none⟩ = some (.int .u32 a3) ∧ W.cell? ⟨w.heap.size + 1 + 1 + 1 + 1, 4, none⟩ = some (.int .u32 a0) ∧ W.cell? ⟨w.heap.size + 1 + 1 + 1 + 1, 5, none⟩ = some (.int .u32 a1) ∧ W.cell? ⟨w.heap.size + 1 + 1 + 1 + 1, 8, none⟩ = some (.bool a4) ∧ W.cell? ⟨w.heap.size + 1 + 1 + 1 + 1, 9, none⟩ = some (.bool a5) ∧ w.heap.size + 1 < W.heap.size ∧ w.heap.size + 1 + 1 + 1 < W.heap.size ∧ w.heap.size + 1 + 1 + 1 + 1 < W.heap.size from fun W h => ⟨(hSc W h (⟨w.heap.size + 1, 0, none⟩, .int .u32 a0) (by simp)).1, (hSc W h (⟨w.heap.size + 1, 1, none⟩, .int .u32 a1) (by simp)).1, (hSc W h (⟨w.heap.size + 1 + 1 + 1, 0, none⟩, .int .u32 a2) (by simp)).1, (hSc W h (⟨w.heap.size + 1 + 1 + 1, 1, none⟩, .int .u32 a3) (by simp)).1, (hSc W h (⟨w.heap.size + 1 + 1 + 1 + 1, 4, none⟩, .int .u32 a0) (by simp)).1, (hSc W h (⟨w.heap.size + 1 + 1 + 1 + 1, 5, none⟩, .int .u32 a1) (by simp)).1, (hSc W h (⟨w.heap.size + 1 + 1 + 1 + 1, 8, none⟩, .bool a4) (by simp)).1, (hSc W h (⟨w.heap.size + 1 + 1 + 1 + 1, 9, none⟩, .bool a5) (by simp)).1, (hSc W h (⟨w.heap.size + 1, 0, none⟩, .int .u32 a0) (by simp)).2, (hSc W h (⟨w.heap.size + 1 + 1 + 1, 0, none⟩, .int .u32 a2) (by simp)).2, (hSc W h (⟨w.heap.size + 1 + 1 + 1 + 1, 4, none⟩, .int .u32 a0) (by simp)).2⟩)
      have HN := Lib.hid hSn
      have HB := Lib.hid hSB
      clear hSn hSB hSc hb1 
      obtain ⟨c0, c1, c2, c3, c4, c5, c6, c7, z0, z1, z2⟩ := HC.out _ hS
      go_wp2_with fail
      refine (stmtEnd_any _ a4 a5 _ _ _ b0 b1 hv (cell_alloc c4) (cell_alloc c5) (cell_alloc c6) (cell_alloc c7) (by simp; omega)).mono ?_
      rintro e w2 ⟨rfl, hb2⟩
      generalize endO a0 a1 (a4 || a5) = x at *
      generalize endLc a0 a1 (a4 || a5) = xl at *
      have hBw := HB.out _ hS
      clear HC HN HB
      obtain ⟨S, hS, hSn, hSB, hSc⟩ := cells_after w _ _ hb2 [(⟨w.heap.size + 1, 0, none⟩, .int .u32 a0), (⟨w.heap.size + 1, 1, none⟩, .int .u32 a1), (⟨w.heap.size + 1 + 1 + 1, 0, none⟩, .int .u32 a2), (⟨w.heap.size + 1 + 1 + 1, 1, none⟩, .int .u32 a3), (⟨w1.heap.size, 0, none⟩, .int .u32 a2), (⟨w1.heap.size, 1, none⟩, .int .u32 a3)] (by go_grown) (by intro p hp; simp only [List.mem_cons, List.not_mem_nil, or_false] at hp; rcases hp with rfl | rfl | rfl | rfl | rfl | rfl <;> exact ⟨by first | assumption | (simp [go_sem]; done) | (refine cell_alloc ?_; assumption) | (refine cell_alloc (cell_alloc ?_); assumption) | (refine cell_alloc (cell_alloc (cell_alloc ?_)); assumption), by first | (simp; omega) | (simp; done)⟩)
      have HC := Lib.hid (show ∀ W, S W → W.cell? ⟨w.heap.size + 1, 0, none⟩ = some (.int .u32 a0) ∧ W.cell? ⟨w.heap.size + 1, 1, none⟩ = some (.int .u32 a1) ∧ W.cell? ⟨w.heap.size + 1 + 1 + 1, 0, none⟩ = some (.int .u32 a2) ∧ W.cell? ⟨w.heap.size + 1 + 1 + 1, 1, none⟩ = some (.int .u32 a3) ∧ W.cell? ⟨w1.heap.size, 0, none⟩ = some (.int .u32 a2) ∧ W.cell? ⟨w1.heap.size, 1, none⟩ = some (.int .u32 a3) ∧ w.heap.size + 1 < W.heap.size ∧ w.heap.size + 1 + 1 + 1 < W.heap.size ∧ w1.heap.size < W.heap.size from fun W h => ⟨(hSc W h (⟨w.heap.size + 1, 0, none⟩, .int .u32 a0) (by simp)).1, (hSc W h (⟨w.heap.size + 1, 1, none⟩, .int .u32 a1) (by simp)).1, (hSc W h (⟨w.heap.size + 1 + 1 + 1, 0, none⟩, .int .u32 a2) (by simp)).1, (hSc W h (⟨w.heap.size + 1 + 1 + 1, 1, none⟩, .int .u32 a3) (by simp)).1, (hSc W h (⟨w1.heap.size, 0, none⟩, .int .u32 a2) (by simp)).1, (hSc W h (⟨w1.heap.size, 1, none⟩, .int .u32 a3) (by simp)).1, (hSc W h (⟨w.heap.size + 1, 0, none⟩, .int .u32 a0) (by simp)).2, (hSc W h (⟨w.heap.size + 1 + 1 + 1, 0, none⟩, .int .u32 a2) (by simp)).2, (hSc W h (⟨w1.heap.size, 0, none⟩, .int .u32 a2) (by simp)).2⟩)
      have HN := Lib.hid hSn
      have HB := Lib.hid hSB
      clear hSn hSB hSc hb2 c0 c1 c2 c3 c4 c5 c6 c7 z0 z1 z2
      obtain ⟨c0, c1, c2, c3, c4, c5, z0, z1, z2⟩ := HC.out _ hS
      go_wp2_with fail
      have hBw := HB.out _ hS
      clear HC HN HB
      obtain ⟨S, hS, hSn, hSB, hSc⟩ := cells_word w (w2.alloc (.cells #[.int .u32 x, .int .u32 xl] 25)) [(⟨w.heap.size + 1, 0, none⟩, .int .u32 a0), (⟨w.heap.size + 1, 1, none⟩, .int .u32 a1), (⟨w1.heap.size, 0, none⟩, .int .u32 a2), (⟨w1.heap.size, 1, none⟩, .int .u32 a3), (⟨w2.heap.size, 0, none⟩, .int .u32 x), (⟨w2.heap.size, 1, none⟩, .int .u32 xl)] (by go_grown) (by intro p hp; simp only [List.mem_cons, List.not_mem_nil, or_false] at hp; rcases hp with rfl | rfl | rfl | rfl | rfl | rfl <;> exact ⟨by first | assumption | (simp [go_sem]; done) | (refine cell_alloc ?_; assumption) | (refine cell_alloc (cell_alloc ?_); assumption) | (refine cell_alloc (cell_alloc (cell_alloc ?_)); assumption), by first | (simp; omega) | (simp; done)⟩)
      have HC := Lib.hid (show ∀ W, S W → W.cell? ⟨w.heap.size + 1, 0, none⟩ = some (.int .u32 a0) ∧ W.cell? ⟨w.heap.size + 1, 1, none⟩ = some (.int .u32 a1) ∧ W.cell? ⟨w1.heap.size, 0, none⟩ = some (.int .u32 a2) ∧ W.cell? ⟨w1.heap.size, 1, none⟩ = some (.int .u32 a3) ∧ W.cell? ⟨w2.heap.size, 0, none⟩ = some (.int .u32 x) ∧ W.cell? ⟨w2.heap.size, 1, none⟩ = some (.int .u32 xl) ∧ w.heap.size + 1 < W.heap.size ∧ w1.heap.size < W.heap.size ∧ w2.heap.size < W.heap.size from fun W h => ⟨(hSc W h (⟨w.heap.size + 1, 0, none⟩, .int .u32 a0) (by simp)).1, (hSc W h (⟨w.heap.size + 1, 1, none⟩, .int .u32 a1) (by simp)).1, (hSc W h (⟨w1.heap.size, 0, none⟩, .int .u32 a2) (by simp)).1, (hSc W h (⟨w1.heap.size, 1, none⟩, .int .u32 a3) (by simp)).1, (hSc W h (⟨w2.heap.size, 0, none⟩, .int .u32 x) (by simp)).1, (hSc W h (⟨w2.heap.size, 1, none⟩, .int .u32 xl) (by simp)).1, (hSc W h (⟨w.heap.size + 1, 0, none⟩, .int .u32 a0) (by simp)).2, (hSc W h (⟨w1.heap.size, 0, none⟩, .int .u32 a2) (by simp)).2, (hSc W h (⟨w2.heap.size, 0, none⟩, .int .u32 x) (by simp)).2⟩)
      have HN := Lib.hid hSn
      have HB := Lib.hid hSB
      clear hSn hSB hSc  c0 c1 c2 c3 c4 c5 z0 z1 z2
      obtain ⟨c0, c1, c2, c3, c4, c5, z0, z1, z2⟩ := HC.out _ hS
      have p1 := P1.out
      have d1 : (decide (a2 < x)) = true := by simp; omega
      have d2 : (decide (x - a0 < 1)) = false := by simp; omega
      have d3 : (decide (2 < x - a0)) = false := by simp; omega
      have v1 := IntWalk.u64_in (x - a0) (by omega)
      clear p1
      go_region_held3 (fun W9 => S W9 ∧ W9.cell? ⟨w.heap.size + 1, 0, none⟩ = some (.int .u32 a0) ∧ W9.cell? ⟨w.heap.size + 1, 1, none⟩ = some (.int .u32 a1) ∧ W9.cell? ⟨w1.heap.size, 0, none⟩ = some (.int .u32 a2) ∧ W9.cell? ⟨w1.heap.size, 1, none⟩ = some (.int .u32 a3) ∧ W9.cell? ⟨w2.heap.size, 0, none⟩ = some (.int .u32 x) ∧ W9.cell? ⟨w2.heap.size, 1, none⟩ = some (.int .u32 xl))
        (first | (have hS9 := hS; exact ⟨hS9, c0, c1, c2, c3, c4, c5⟩) | (have hS9 := HN.out _ _ hS (below_drew _); obtain ⟨c0, c1, c2, c3, c4, c5, z0, z1, z2⟩ := HC.out _ hS9; exact ⟨hS9, c0, c1, c2, c3, c4, c5⟩))
        (first | (go_at_call 18; refine (offset_any _ _ _ (by assumption)).mono ?_; rintro e wN ⟨rfl, hbN⟩; have hS := HN.out _ _ (And.left (by assumption)) hbN; clear hbN; obtain ⟨c0, c1, c2, c3, c4, c5, z0, z1, z2⟩ := HC.out _ hS))
      go_wp2_with fail
      go_region_held3 (fun W9 => S W9 ∧ W9.cell? ⟨w.heap.size + 1, 0, none⟩ = some (.int .u32 a0) ∧ W9.cell? ⟨w.heap.size + 1, 1, none⟩ = some (.int .u32 a1) ∧ W9.cell? ⟨w1.heap.size, 0, none⟩ = some (.int .u32 a2) ∧ W9.cell? ⟨w1.heap.size, 1, none⟩ = some (.int .u32 a3) ∧ W9.cell? ⟨w2.heap.size, 0, none⟩ = some (.int .u32 x) ∧ W9.cell? ⟨w2.heap.size, 1, none⟩ = some (.int .u32 xl))
        (first | (have hS9 := hS; exact ⟨hS9, c0, c1, c2, c3, c4, c5⟩) | (have hS9 := HN.out _ _ hS (below_drew _); obtain ⟨c0, c1, c2, c3, c4, c5, z0, z1, z2⟩ := HC.out _ hS9; exact ⟨hS9, c0, c1, c2, c3, c4, c5⟩))
        (first | (go_at_call 18; refine (offset_any _ _ _ (by assumption)).mono ?_; rintro e wN ⟨rfl, hbN⟩; have hS := HN.out _ _ (And.left (by assumption)) hbN; clear hbN; obtain ⟨c0, c1, c2, c3, c4, c5, z0, z1, z2⟩ := HC.out _ hS))
      go_wp2_with fail
      clear v1
      go_region_held3 (fun W9 => S W9 ∧ W9.cell? ⟨w.heap.size + 1, 0, none⟩ = some (.int .u32 a0) ∧ W9.cell? ⟨w.heap.size + 1, 1, none⟩ = some (.int .u32 a1) ∧ W9.cell? ⟨w1.heap.size, 0, none⟩ = some (.int .u32 a2) ∧ W9.cell? ⟨w1.heap.size, 1, none⟩ = some (.int .u32 a3) ∧ W9.cell? ⟨w2.heap.size, 0, none⟩ = some (.int .u32 x) ∧ W9.cell? ⟨w2.heap.size, 1, none⟩ = some (.int .u32 xl))
        (first | (have hS9 := hS; exact ⟨hS9, c0, c1, c2, c3, c4, c5⟩) | (have hS9 := HN.out _ _ hS (below_drew _); obtain ⟨c0, c1, c2, c3, c4, c5, z0, z1, z2⟩ := HC.out _ hS9; exact ⟨hS9, c0, c1, c2, c3, c4, c5⟩))
        (first | (go_at_call 19; refine (line_any _ _ _ (by assumption)).mono ?_; rintro e wN ⟨rfl, hbN⟩; have hS := HN.out _ _ (And.left (by assumption)) hbN; clear hbN; obtain ⟨c0, c1, c2, c3, c4, c5, z0, z1, z2⟩ := HC.out _ hS))
      go_wp2_with fail
      go_ret
      exact ⟨rfl, HB.out _ hS⟩
end Go.Proofs.Ytdphohobnmfbnaa.fnStmtEndAfterPos
