/- The walk of FnRedirectSpanOrdered: the Go text returns true. Conditions: none beyond the kinds. -/
import Derived.Test.YtdphohobnmfbnaaRedirect
import Derived.Deep.RegionHeld3
namespace Go.Proofs.Ytdphohobnmfbnaa.fnRedirectSpanOrdered
open Go.RowKit
set_option linter.unusedVariables false

theorem calls_gen {P : Program} {f : Nat} {args : Array Value} {Q : Ending → World → Prop} {W : World} (R : World → Prop) (h : R W) (k : ∀ W', R W' → Calls P f args W' Q) : Calls P f args W Q := k W h
theorem off_in (x : Int) (h : x ≤ 4294967284) : offOf x = x := by unfold offOf; rw [if_neg (by omega)]

set_option maxHeartbeats 8000000 in
set_option maxRecDepth 100000 in
theorem walk00 (a0 a2 a3 a4 a6 : Int) (w : World) (b0 : 0 ≤ a0 ∧ a0 ≤ 4294967295) (h0 : a0 ≤ 4294901748) (h1 : 1 ≤ a2) (h2 : a2 ≤ 4096) (h3 : 1 ≤ a3) (h4 : a3 ≤ 4096) (h5 : 1 ≤ a4) (h6 : a4 ≤ 4096) (h7 : 1 ≤ a6) (h8 : a6 ≤ 4096) :
    Calls Try.prog 12 #[.int .u32 a0, .bool false, .int .u32 a2, .int .u32 a3, .int .u32 a4, .bool false, .int .u32 a6] w fun e w' => e = .returned (.bool true) ∧ Below w.heap.size w w' := by
  go_enter Try.func12, Try.ntmps12
  go_wp2_with (go_at_call 48; refine (mk147_at _ _ _ _ (by omega) (by omega)).mono ?_; rintro e w' ⟨rfl, rfl⟩)
  refine calls_gen (fun W => Below w.heap.size w W ∧ PosIs Try.prog 49 (w.heap.size + 1 + 1 + 1 + 1 + 1 + 1 + 1 + 1 + 1 + 1) (a0) (16385) W ∧ PosIs Try.prog 50 (w.heap.size + 1 + 1 + 1 + 1 + 1 + 1 + 1 + 1 + 1 + 1) (a0 + (a3 + a4)) (16384 + (1 + (a3 + a4))) W ∧ W.cell? ⟨w.heap.size + 1 + 1, 0, none⟩ = some (.int .u32 (a0)) ∧ W.cell? ⟨w.heap.size + 1 + 1, 1, none⟩ = some (.int .u32 (16385)) ∧ w.heap.size + 1 + 1 < W.heap.size)
    ⟨by go_grown, (redirPos_op (w.heap.size + 1 + 1 + 1 + 1 + 1 + 1 + 1 + 1 + 1 + 1) a0 16385 _ (by simp [go_sem]) (by simp [go_sem]) (by simp [go_sem]) (by simp)), (redirEnd_wordEnd (w.heap.size + 1 + 1 + 1 + 1 + 1 + 1 + 1 + 1 + 1 + 1) (w.heap.size + 1 + 1 + 1 + 1 + 1 + 1 + 1 + 1 + 1) (a0 + (a3 + a4)) (16384 + (1 + (a3 + a4))) _ (by simp [go_sem]) (by simp [go_sem]) (by simp) (wordEnd_is (w.heap.size + 1 + 1 + 1 + 1 + 1 + 1 + 1 + 1 + 1) (w.heap.size + 1 + 1 + 1 + 1 + 1 + 1 + 1 + 1) (w.heap.size + 1 + 1 + 1 + 1 + 1 + 1 + 1) 1 1 (a0 + (a3 + a4)) (16384 + (1 + (a3 + a4))) _ (by omega) (by omega) (by simp [go_sem]) (by simp [go_sem]) (by simp) (by simp) (litEnd_is (w.heap.size + 1 + 1 + 1 + 1 + 1 + 1 + 1) (a0 + (a3 + a4)) (16384 + (1 + (a3 + a4))) _ (by simp [go_sem]) (by simp [go_sem]) (by simp)))), (by simp [go_sem]), (by simp [go_sem]), by simp⟩ ?_
  rintro W ⟨hB, hP, hE, k0, k1, kz⟩
  obtain ⟨eo, heo⟩ : ∃ x : Int, x = a0 + (a3 + a4) := ⟨_, rfl⟩
  obtain ⟨el, hel⟩ : ∃ x : Int, x = 16384 + (1 + (a3 + a4)) := ⟨_, rfl⟩
  obtain ⟨oo, hoo⟩ : ∃ x : Int, x = a0 := ⟨_, rfl⟩
  obtain ⟨ol, hol⟩ : ∃ x : Int, x = 16385 := ⟨_, rfl⟩
  rw [← heo, ← hel] at hE
  rw [← hoo] at k0
  rw [← hol] at k1
  have e1 : offOf eo = eo := off_in _ (by omega)
  have e2 : offOf oo = oo := off_in _ (by omega)
  have e3 : offOf a0 = a0 := off_in _ (by omega)
  have e4 : lineOf el = 1 := by unfold lineOf; omega
  have e5 : validB eo el = true := by simp [validB]; omega
  have e6 : decide (a0 < eo) = true := by simp; omega
  have e7 : decide (eo < a0) = false := by simp; omega
  have i1 : 0 ≤ eo ∧ eo ≤ 4294967295 := by omega
  have i2 : 0 ≤ el ∧ el ≤ 4294967295 := by omega
  have i3 : 0 ≤ oo ∧ oo ≤ 4294967295 := by omega
  have j1 : a0 ≤ oo := by omega
  have j2 : oo < eo := by omega
  have j3 : (eo == a0 + (a3 + a4)) = true := by simp [heo]
  have HE := Lib.hid hE
  clear hE heo hel hoo hol
  refine (hP.now).mono ?_
  rintro e w1 ⟨rfl, hb1⟩
  have HE1 := Lib.hid (HE.out.grow hb1)
  clear hP HE
  obtain ⟨S, hS, hSn, hSB, hSc⟩ := cells_after w _ _ hb1 [(⟨w.heap.size + 1 + 1, 0, none⟩, .int .u32 oo), (⟨w.heap.size + 1 + 1, 1, none⟩, .int .u32 ol)] (by go_grown) (by intro p hp; simp only [List.mem_cons, List.not_mem_nil, or_false] at hp; rcases hp with rfl | rfl <;> exact ⟨by first | assumption | (simp [go_sem]; done) | (refine cell_alloc ?_; assumption) | (refine cell_alloc (cell_alloc ?_); assumption) | (refine cell_alloc (cell_alloc (cell_alloc ?_)); assumption), by first | (simp; omega) | (simp; done)⟩)
  have HC := Lib.hid (show ∀ W, S W → W.cell? ⟨w.heap.size + 1 + 1, 0, none⟩ = some (.int .u32 oo) ∧ W.cell? ⟨w.heap.size + 1 + 1, 1, none⟩ = some (.int .u32 ol) ∧ w.heap.size + 1 + 1 < W.heap.size from fun W h => ⟨(hSc W h (⟨w.heap.size + 1 + 1, 0, none⟩, .int .u32 oo) (by simp)).1, (hSc W h (⟨w.heap.size + 1 + 1, 1, none⟩, .int .u32 ol) (by simp)).1, (hSc W h (⟨w.heap.size + 1 + 1, 0, none⟩, .int .u32 oo) (by simp)).2⟩)
  have HN := Lib.hid hSn
  have HB := Lib.hid hSB
  clear hSn hSB hSc hb1 
  obtain ⟨c0, c1, z0⟩ := HC.out _ hS
  go_wp2_with fail
  refine (HE1.out.grow (by go_grown)).now.mono ?_
  rintro e w2 ⟨rfl, hb2⟩
  clear HE1
  have hBw := HB.out _ hS
  clear HC HN HB
  obtain ⟨S, hS, hSn, hSB, hSc⟩ := cells_after w _ _ hb2 [(⟨w.heap.size + 1 + 1, 0, none⟩, .int .u32 oo), (⟨w.heap.size + 1 + 1, 1, none⟩, .int .u32 ol), (⟨w1.heap.size, 0, none⟩, .int .u32 a0), (⟨w1.heap.size, 1, none⟩, .int .u32 16385)] (by go_grown) (by intro p hp; simp only [List.mem_cons, List.not_mem_nil, or_false] at hp; rcases hp with rfl | rfl | rfl | rfl <;> exact ⟨by first | assumption | (simp [go_sem]; done) | (refine cell_alloc ?_; assumption) | (refine cell_alloc (cell_alloc ?_); assumption) | (refine cell_alloc (cell_alloc (cell_alloc ?_)); assumption), by first | (simp; omega) | (simp; done)⟩)
  have HC := Lib.hid (show ∀ W, S W → W.cell? ⟨w.heap.size + 1 + 1, 0, none⟩ = some (.int .u32 oo) ∧ W.cell? ⟨w.heap.size + 1 + 1, 1, none⟩ = some (.int .u32 ol) ∧ W.cell? ⟨w1.heap.size, 0, none⟩ = some (.int .u32 a0) ∧ W.cell? ⟨w1.heap.size, 1, none⟩ = some (.int .u32 16385) ∧ w.heap.size + 1 + 1 < W.heap.size ∧ w1.heap.size < W.heap.size from fun W h => ⟨(hSc W h (⟨w.heap.size + 1 + 1, 0, none⟩, .int .u32 oo) (by simp)).1, (hSc W h (⟨w.heap.size + 1 + 1, 1, none⟩, .int .u32 ol) (by simp)).1, (hSc W h (⟨w1.heap.size, 0, none⟩, .int .u32 a0) (by simp)).1, (hSc W h (⟨w1.heap.size, 1, none⟩, .int .u32 16385) (by simp)).1, (hSc W h (⟨w.heap.size + 1 + 1, 0, none⟩, .int .u32 oo) (by simp)).2, (hSc W h (⟨w1.heap.size, 0, none⟩, .int .u32 a0) (by simp)).2⟩)
  have HN := Lib.hid hSn
  have HB := Lib.hid hSB
  clear hSn hSB hSc hb2 c0 c1 z0
  obtain ⟨c0, c1, c2, c3, z0, z1⟩ := HC.out _ hS
  go_wp2_with fail
  have hBw := HB.out _ hS
  clear HC HN HB
  obtain ⟨S, hS, hSn, hSB, hSc⟩ := cells_word w (w2.alloc (.cells #[.int .u32 eo, .int .u32 el] 25)) [(⟨w.heap.size + 1 + 1, 0, none⟩, .int .u32 oo), (⟨w.heap.size + 1 + 1, 1, none⟩, .int .u32 ol), (⟨w1.heap.size, 0, none⟩, .int .u32 a0), (⟨w1.heap.size, 1, none⟩, .int .u32 16385), (⟨w2.heap.size, 0, none⟩, .int .u32 eo), (⟨w2.heap.size, 1, none⟩, .int .u32 el)] (by go_grown) (by intro p hp; simp only [List.mem_cons, List.not_mem_nil, or_false] at hp; rcases hp with rfl | rfl | rfl | rfl | rfl | rfl <;> exact ⟨by first | assumption | (simp [go_sem]; done) | (refine cell_alloc ?_; assumption) | (refine cell_alloc (cell_alloc ?_); assumption) | (refine cell_alloc (cell_alloc (cell_alloc ?_)); assumption), by first | (simp; omega) | (simp; done)⟩)
  have HC := Lib.hid (show ∀ W, S W → W.cell? ⟨w.heap.size + 1 + 1, 0, none⟩ = some (.int .u32 oo) ∧ W.cell? ⟨w.heap.size + 1 + 1, 1, none⟩ = some (.int .u32 ol) ∧ W.cell? ⟨w1.heap.size, 0, none⟩ = some (.int .u32 a0) ∧ W.cell? ⟨w1.heap.size, 1, none⟩ = some (.int .u32 16385) ∧ W.cell? ⟨w2.heap.size, 0, none⟩ = some (.int .u32 eo) ∧ W.cell? ⟨w2.heap.size, 1, none⟩ = some (.int .u32 el) ∧ w.heap.size + 1 + 1 < W.heap.size ∧ w1.heap.size < W.heap.size ∧ w2.heap.size < W.heap.size from fun W h => ⟨(hSc W h (⟨w.heap.size + 1 + 1, 0, none⟩, .int .u32 oo) (by simp)).1, (hSc W h (⟨w.heap.size + 1 + 1, 1, none⟩, .int .u32 ol) (by simp)).1, (hSc W h (⟨w1.heap.size, 0, none⟩, .int .u32 a0) (by simp)).1, (hSc W h (⟨w1.heap.size, 1, none⟩, .int .u32 16385) (by simp)).1, (hSc W h (⟨w2.heap.size, 0, none⟩, .int .u32 eo) (by simp)).1, (hSc W h (⟨w2.heap.size, 1, none⟩, .int .u32 el) (by simp)).1, (hSc W h (⟨w.heap.size + 1 + 1, 0, none⟩, .int .u32 oo) (by simp)).2, (hSc W h (⟨w1.heap.size, 0, none⟩, .int .u32 a0) (by simp)).2, (hSc W h (⟨w2.heap.size, 0, none⟩, .int .u32 eo) (by simp)).2⟩)
  have HN := Lib.hid hSn
  have HB := Lib.hid hSB
  clear hSn hSB hSc  c0 c1 c2 c3 z0 z1
  obtain ⟨c0, c1, c2, c3, c4, c5, z0, z1, z2⟩ := HC.out _ hS
  go_region_held3 (fun W9 => S W9 ∧ W9.cell? ⟨w.heap.size + 1 + 1, 0, none⟩ = some (.int .u32 oo) ∧ W9.cell? ⟨w.heap.size + 1 + 1, 1, none⟩ = some (.int .u32 ol) ∧ W9.cell? ⟨w1.heap.size, 0, none⟩ = some (.int .u32 a0) ∧ W9.cell? ⟨w1.heap.size, 1, none⟩ = some (.int .u32 16385) ∧ W9.cell? ⟨w2.heap.size, 0, none⟩ = some (.int .u32 eo) ∧ W9.cell? ⟨w2.heap.size, 1, none⟩ = some (.int .u32 el))
    (first | (have hS9 := hS; exact ⟨hS9, c0, c1, c2, c3, c4, c5⟩) | (have hS9 := HN.out _ _ hS (below_drew _); obtain ⟨c0, c1, c2, c3, c4, c5, z0, z1, z2⟩ := HC.out _ hS9; exact ⟨hS9, c0, c1, c2, c3, c4, c5⟩))
    (first | (go_at_call 18; refine (offset_any _ _ _ (by assumption)).mono ?_; rintro e wN ⟨rfl, hbN⟩; have hS := HN.out _ _ (And.left (by assumption)) hbN; clear hbN; obtain ⟨c0, c1, c2, c3, c4, c5, z0, z1, z2⟩ := HC.out _ hS))
  go_wp2_with fail
  go_region_held3 (fun W9 => S W9 ∧ W9.cell? ⟨w.heap.size + 1 + 1, 0, none⟩ = some (.int .u32 oo) ∧ W9.cell? ⟨w.heap.size + 1 + 1, 1, none⟩ = some (.int .u32 ol) ∧ W9.cell? ⟨w1.heap.size, 0, none⟩ = some (.int .u32 a0) ∧ W9.cell? ⟨w1.heap.size, 1, none⟩ = some (.int .u32 16385) ∧ W9.cell? ⟨w2.heap.size, 0, none⟩ = some (.int .u32 eo) ∧ W9.cell? ⟨w2.heap.size, 1, none⟩ = some (.int .u32 el))
    (first | (have hS9 := hS; exact ⟨hS9, c0, c1, c2, c3, c4, c5⟩) | (have hS9 := HN.out _ _ hS (below_drew _); obtain ⟨c0, c1, c2, c3, c4, c5, z0, z1, z2⟩ := HC.out _ hS9; exact ⟨hS9, c0, c1, c2, c3, c4, c5⟩))
    (first | (go_at_call 18; refine (offset_any _ _ _ (by assumption)).mono ?_; rintro e wN ⟨rfl, hbN⟩; have hS := HN.out _ _ (And.left (by assumption)) hbN; clear hbN; obtain ⟨c0, c1, c2, c3, c4, c5, z0, z1, z2⟩ := HC.out _ hS))
  go_wp2_with fail
  refine (after_any _ _ _ _ _ i1 i2).mono ?_
  rintro e wN ⟨rfl, hbN⟩
  have hS := HN.out _ _ hS hbN
  clear hbN c0 c1 c2 c3 c4 c5 z0 z1 z2
  obtain ⟨c0, c1, c2, c3, c4, c5, z0, z1, z2⟩ := HC.out _ hS
  go_wp2_with fail
  refine (after_any _ _ _ _ _ b0 (by omega)).mono ?_
  rintro e wN ⟨rfl, hbN⟩
  have hS := HN.out _ _ hS hbN
  clear hbN c0 c1 c2 c3 c4 c5 z0 z1 z2
  obtain ⟨c0, c1, c2, c3, c4, c5, z0, z1, z2⟩ := HC.out _ hS
  go_wp2_with fail
  refine (line_any _ _ _ i2).mono ?_
  rintro e wN ⟨rfl, hbN⟩
  have hS := HN.out _ _ hS hbN
  clear hbN c0 c1 c2 c3 c4 c5 z0 z1 z2
  obtain ⟨c0, c1, c2, c3, c4, c5, z0, z1, z2⟩ := HC.out _ hS
  go_wp2_with fail
  refine (offset_any _ _ _ i1).mono ?_
  rintro e wN ⟨rfl, hbN⟩
  have hS := HN.out _ _ hS hbN
  clear hbN c0 c1 c2 c3 c4 c5 z0 z1 z2
  obtain ⟨c0, c1, c2, c3, c4, c5, z0, z1, z2⟩ := HC.out _ hS
  go_wp2_with fail
  go_ret
  exact ⟨by simp, HB.out _ hS⟩
set_option maxHeartbeats 8000000 in
set_option maxRecDepth 100000 in
theorem walk01 (a0 a2 a3 a4 a6 : Int) (w : World) (b0 : 0 ≤ a0 ∧ a0 ≤ 4294967295) (h0 : a0 ≤ 4294901748) (h1 : 1 ≤ a2) (h2 : a2 ≤ 4096) (h3 : 1 ≤ a3) (h4 : a3 ≤ 4096) (h5 : 1 ≤ a4) (h6 : a4 ≤ 4096) (h7 : 1 ≤ a6) (h8 : a6 ≤ 4096) :
    Calls Try.prog 12 #[.int .u32 a0, .bool false, .int .u32 a2, .int .u32 a3, .int .u32 a4, .bool true, .int .u32 a6] w fun e w' => e = .returned (.bool true) ∧ Below w.heap.size w w' := by
  go_enter Try.func12, Try.ntmps12
  go_wp2_with (go_at_call 48; refine (mk147_at _ _ _ _ (by omega) (by omega)).mono ?_; rintro e w' ⟨rfl, rfl⟩)
  refine calls_gen (fun W => Below w.heap.size w W ∧ PosIs Try.prog 49 (w.heap.size + 1 + 1 + 1 + 1 + 1 + 1 + 1 + 1 + 1 + 1) (a0) (16385) W ∧ PosIs Try.prog 50 (w.heap.size + 1 + 1 + 1 + 1 + 1 + 1 + 1 + 1 + 1 + 1) (a0 + (a3 + a4) + 1 + a6) (32768 + (1 + a6)) W ∧ W.cell? ⟨w.heap.size + 1 + 1, 0, none⟩ = some (.int .u32 (a0)) ∧ W.cell? ⟨w.heap.size + 1 + 1, 1, none⟩ = some (.int .u32 (16385)) ∧ w.heap.size + 1 + 1 < W.heap.size)
    ⟨by go_grown, (redirPos_op (w.heap.size + 1 + 1 + 1 + 1 + 1 + 1 + 1 + 1 + 1 + 1) a0 16385 _ (by simp [go_sem]) (by simp [go_sem]) (by simp [go_sem]) (by simp)), (redirEnd_hdoc (w.heap.size + 1 + 1 + 1 + 1 + 1 + 1 + 1 + 1 + 1 + 1) (w.heap.size + 1 + 1 + 1 + 1 + 1 + 1 + 1 + 1 + 1 + 1 + 1 + 1 + 1 + 1 + 1 + 1 + 1) (a0 + (a3 + a4) + 1 + a6) (32768 + (1 + a6)) _ (by simp [go_sem]) (by simp) (wordEnd_is (w.heap.size + 1 + 1 + 1 + 1 + 1 + 1 + 1 + 1 + 1 + 1 + 1 + 1 + 1 + 1 + 1 + 1 + 1) (w.heap.size + 1 + 1 + 1 + 1 + 1 + 1 + 1 + 1 + 1 + 1 + 1 + 1 + 1 + 1 + 1 + 1) (w.heap.size + 1 + 1 + 1 + 1 + 1 + 1 + 1 + 1 + 1 + 1 + 1 + 1 + 1 + 1 + 1) 1 1 (a0 + (a3 + a4) + 1 + a6) (32768 + (1 + a6)) _ (by omega) (by omega) (by simp [go_sem]) (by simp [go_sem]) (by simp) (by simp) (litEnd_is (w.heap.size + 1 + 1 + 1 + 1 + 1 + 1 + 1 + 1 + 1 + 1 + 1 + 1 + 1 + 1 + 1) (a0 + (a3 + a4) + 1 + a6) (32768 + (1 + a6)) _ (by simp [go_sem]) (by simp [go_sem]) (by simp)))), (by simp [go_sem]), (by simp [go_sem]), by simp⟩ ?_
  rintro W ⟨hB, hP, hE, k0, k1, kz⟩
  obtain ⟨eo, heo⟩ : ∃ x : Int, x = a0 + (a3 + a4) + 1 + a6 := ⟨_, rfl⟩
  obtain ⟨el, hel⟩ : ∃ x : Int, x = 32768 + (1 + a6) := ⟨_, rfl⟩
  obtain ⟨oo, hoo⟩ : ∃ x : Int, x = a0 := ⟨_, rfl⟩
  obtain ⟨ol, hol⟩ : ∃ x : Int, x = 16385 := ⟨_, rfl⟩
  rw [← heo, ← hel] at hE
  rw [← hoo] at k0
  rw [← hol] at k1
  have e1 : offOf eo = eo := off_in _ (by omega)
  have e2 : offOf oo = oo := off_in _ (by omega)
  have e3 : offOf a0 = a0 := off_in _ (by omega)
  have e4 : lineOf el = 2 := by unfold lineOf; omega
  have e5 : validB eo el = true := by simp [validB]; omega
  have e6 : decide (a0 < eo) = true := by simp; omega
  have e7 : decide (eo < a0) = false := by simp; omega
  have i1 : 0 ≤ eo ∧ eo ≤ 4294967295 := by omega
  have i2 : 0 ≤ el ∧ el ≤ 4294967295 := by omega
  have i3 : 0 ≤ oo ∧ oo ≤ 4294967295 := by omega
  have j1 : a0 ≤ oo := by omega
  have j2 : oo < eo := by omega
  have j3 : a0 + (a3 + a4) < eo := by omega
  have HE := Lib.hid hE
  clear hE heo hel hoo hol
  refine (hP.now).mono ?_
  rintro e w1 ⟨rfl, hb1⟩
  have HE1 := Lib.hid (HE.out.grow hb1)
  clear hP HE
  obtain ⟨S, hS, hSn, hSB, hSc⟩ := cells_after w _ _ hb1 [(⟨w.heap.size + 1 + 1, 0, none⟩, .int .u32 oo), (⟨w.heap.size + 1 + 1, 1, none⟩, .int .u32 ol)] (by go_grown) (by intro p hp; simp only [List.mem_cons, List.not_mem_nil, or_false] at hp; rcases hp with rfl | rfl <;> exact ⟨by first | assumption | (simp [go_sem]; done) | (refine cell_alloc ?_; assumption) | (refine cell_alloc (cell_alloc ?_); assumption) | (refine cell_alloc (cell_alloc (cell_alloc ?_)); assumption), by first | (simp; omega) | (simp; done)⟩)
  have HC := Lib.hid (show ∀ W, S W → W.cell? ⟨w.heap.size + 1 + 1, 0, none⟩ = some (.int .u32 oo) ∧ W.cell? ⟨w.heap.size + 1 + 1, 1, none⟩ = some (.int .u32 ol) ∧ w.heap.size + 1 + 1 < W.heap.size from fun W h => ⟨(hSc W h (⟨w.heap.size + 1 + 1, 0, none⟩, .int .u32 oo) (by simp)).1, (hSc W h (⟨w.heap.size + 1 + 1, 1, none⟩, .int .u32 ol) (by simp)).1, (hSc W h (⟨w.heap.size + 1 + 1, 0, none⟩, .int .u32 oo) (by simp)).2⟩)
  have HN := Lib.hid hSn
  have HB := Lib.hid hSB
  clear hSn hSB hSc hb1 
  obtain ⟨c0, c1, z0⟩ := HC.out _ hS
  go_wp2_with fail
  refine (HE1.out.grow (by go_grown)).now.mono ?_
  rintro e w2 ⟨rfl, hb2⟩
  clear HE1
  have hBw := HB.out _ hS
  clear HC HN HB
  obtain ⟨S, hS, hSn, hSB, hSc⟩ := cells_after w _ _ hb2 [(⟨w.heap.size + 1 + 1, 0, none⟩, .int .u32 oo), (⟨w.heap.size + 1 + 1, 1, none⟩, .int .u32 ol), (⟨w1.heap.size, 0, none⟩, .int .u32 a0), (⟨w1.heap.size, 1, none⟩, .int .u32 16385)] (by go_grown) (by intro p hp; simp only [List.mem_cons, List.not_mem_nil, or_false] at hp; rcases hp with rfl | rfl | rfl | rfl <;> exact ⟨by first | assumption | (simp [go_sem]; done) | (refine cell_alloc ?_; assumption) | (refine cell_alloc (cell_alloc ?_); assumption) | (refine cell_alloc (cell_alloc (cell_alloc ?_)); assumption), by first | (simp; omega) | (simp; done)⟩)
  have HC := Lib.hid (show ∀ W, S W → W.cell? ⟨w.heap.size + 1 + 1, 0, none⟩ = some (.int .u32 oo) ∧ W.cell? ⟨w.heap.size + 1 + 1, 1, none⟩ = some (.int .u32 ol) ∧ W.cell? ⟨w1.heap.size, 0, none⟩ = some (.int .u32 a0) ∧ W.cell? ⟨w1.heap.size, 1, none⟩ = some (.int .u32 16385) ∧ w.heap.size + 1 + 1 < W.heap.size ∧ w1.heap.size < W.heap.size from fun W h => ⟨(hSc W h (⟨w.heap.size + 1 + 1, 0, none⟩, .int .u32 oo) (by simp)).1, (hSc W h (⟨w.heap.size + 1 + 1, 1, none⟩, .int .u32 ol) (by simp)).1, (hSc W h (⟨w1.heap.size, 0, none⟩, .int .u32 a0) (by simp)).1, (hSc W h (⟨w1.heap.size, 1, none⟩, .int .u32 16385) (by simp)).1, (hSc W h (⟨w.heap.size + 1 + 1, 0, none⟩, .int .u32 oo) (by simp)).2, (hSc W h (⟨w1.heap.size, 0, none⟩, .int .u32 a0) (by simp)).2⟩)
  have HN := Lib.hid hSn
  have HB := Lib.hid hSB
  clear hSn hSB hSc hb2 c0 c1 z0
  obtain ⟨c0, c1, c2, c3, z0, z1⟩ := HC.out _ hS
  go_wp2_with fail
  have hBw := HB.out _ hS
  clear HC HN HB
  obtain ⟨S, hS, hSn, hSB, hSc⟩ := cells_word w (w2.alloc (.cells #[.int .u32 eo, .int .u32 el] 25)) [(⟨w.heap.size + 1 + 1, 0, none⟩, .int .u32 oo), (⟨w.heap.size + 1 + 1, 1, none⟩, .int .u32 ol), (⟨w1.heap.size, 0, none⟩, .int .u32 a0), (⟨w1.heap.size, 1, none⟩, .int .u32 16385), (⟨w2.heap.size, 0, none⟩, .int .u32 eo), (⟨w2.heap.size, 1, none⟩, .int .u32 el)] (by go_grown) (by intro p hp; simp only [List.mem_cons, List.not_mem_nil, or_false] at hp; rcases hp with rfl | rfl | rfl | rfl | rfl | rfl <;> exact ⟨by first | assumption | (simp [go_sem]; done) | (refine cell_alloc ?_; assumption) | (refine cell_alloc (cell_alloc ?_); assumption) | (refine cell_alloc (cell_alloc (cell_alloc ?_)); assumption), by first | (simp; omega) | (simp; done)⟩)
  have HC := Lib.hid (show ∀ W, S W → W.cell? ⟨w.heap.size + 1 + 1, 0, none⟩ = some (.int .u32 oo) ∧ W.cell? ⟨w.heap.size + 1 + 1, 1, none⟩ = some (.int .u32 ol) ∧ W.cell? ⟨w1.heap.size, 0, none⟩ = some (.int .u32 a0) ∧ W.cell? ⟨w1.heap.size, 1, none⟩ = some (.int .u32 16385) ∧ W.cell? ⟨w2.heap.size, 0, none⟩ = some (.int .u32 eo) ∧ W.cell? ⟨w2.heap.size, 1, none⟩ = some (.int .u32 el) ∧ w.heap.size + 1 + 1 < W.heap.size ∧ w1.heap.size < W.heap.size ∧ w2.heap.size < W.heap.size from fun W h => ⟨(hSc W h (⟨w.heap.size + 1 + 1, 0, none⟩, .int .u32 oo) (by simp)).1, (hSc W h (⟨w.heap.size + 1 + 1, 1, none⟩, .int .u32 ol) (by simp)).1, (hSc W h (⟨w1.heap.size, 0, none⟩, .int .u32 a0) (by simp)).1, (hSc W h (⟨w1.heap.size, 1, none⟩, .int .u32 16385) (by simp)).1, (hSc W h (⟨w2.heap.size, 0, none⟩, .int .u32 eo) (by simp)).1, (hSc W h (⟨w2.heap.size, 1, none⟩, .int .u32 el) (by simp)).1, (hSc W h (⟨w.heap.size + 1 + 1, 0, none⟩, .int .u32 oo) (by simp)).2, (hSc W h (⟨w1.heap.size, 0, none⟩, .int .u32 a0) (by simp)).2, (hSc W h (⟨w2.heap.size, 0, none⟩, .int .u32 eo) (by simp)).2⟩)
  have HN := Lib.hid hSn
  have HB := Lib.hid hSB
  clear hSn hSB hSc  c0 c1 c2 c3 z0 z1
  obtain ⟨c0, c1, c2, c3, c4, c5, z0, z1, z2⟩ := HC.out _ hS
  go_region_held3 (fun W9 => S W9 ∧ W9.cell? ⟨w.heap.size + 1 + 1, 0, none⟩ = some (.int .u32 oo) ∧ W9.cell? ⟨w.heap.size + 1 + 1, 1, none⟩ = some (.int .u32 ol) ∧ W9.cell? ⟨w1.heap.size, 0, none⟩ = some (.int .u32 a0) ∧ W9.cell? ⟨w1.heap.size, 1, none⟩ = some (.int .u32 16385) ∧ W9.cell? ⟨w2.heap.size, 0, none⟩ = some (.int .u32 eo) ∧ W9.cell? ⟨w2.heap.size, 1, none⟩ = some (.int .u32 el))
    (first | (have hS9 := hS; exact ⟨hS9, c0, c1, c2, c3, c4, c5⟩) | (have hS9 := HN.out _ _ hS (below_drew _); obtain ⟨c0, c1, c2, c3, c4, c5, z0, z1, z2⟩ := HC.out _ hS9; exact ⟨hS9, c0, c1, c2, c3, c4, c5⟩))
    (first | (go_at_call 18; refine (offset_any _ _ _ (by assumption)).mono ?_; rintro e wN ⟨rfl, hbN⟩; have hS := HN.out _ _ (And.left (by assumption)) hbN; clear hbN; obtain ⟨c0, c1, c2, c3, c4, c5, z0, z1, z2⟩ := HC.out _ hS))
  go_wp2_with fail
  go_region_held3 (fun W9 => S W9 ∧ W9.cell? ⟨w.heap.size + 1 + 1, 0, none⟩ = some (.int .u32 oo) ∧ W9.cell? ⟨w.heap.size + 1 + 1, 1, none⟩ = some (.int .u32 ol) ∧ W9.cell? ⟨w1.heap.size, 0, none⟩ = some (.int .u32 a0) ∧ W9.cell? ⟨w1.heap.size, 1, none⟩ = some (.int .u32 16385) ∧ W9.cell? ⟨w2.heap.size, 0, none⟩ = some (.int .u32 eo) ∧ W9.cell? ⟨w2.heap.size, 1, none⟩ = some (.int .u32 el))
    (first | (have hS9 := hS; exact ⟨hS9, c0, c1, c2, c3, c4, c5⟩) | (have hS9 := HN.out _ _ hS (below_drew _); obtain ⟨c0, c1, c2, c3, c4, c5, z0, z1, z2⟩ := HC.out _ hS9; exact ⟨hS9, c0, c1, c2, c3, c4, c5⟩))
    (first | (go_at_call 18; refine (offset_any _ _ _ (by assumption)).mono ?_; rintro e wN ⟨rfl, hbN⟩; have hS := HN.out _ _ (And.left (by assumption)) hbN; clear hbN; obtain ⟨c0, c1, c2, c3, c4, c5, z0, z1, z2⟩ := HC.out _ hS))
  go_wp2_with fail
  refine (after_any _ _ _ _ _ i1 i2).mono ?_
  rintro e wN ⟨rfl, hbN⟩
  have hS := HN.out _ _ hS hbN
  clear hbN c0 c1 c2 c3 c4 c5 z0 z1 z2
  obtain ⟨c0, c1, c2, c3, c4, c5, z0, z1, z2⟩ := HC.out _ hS
  go_wp2_with fail
  refine (after_any _ _ _ _ _ b0 (by omega)).mono ?_
  rintro e wN ⟨rfl, hbN⟩
  have hS := HN.out _ _ hS hbN
  clear hbN c0 c1 c2 c3 c4 c5 z0 z1 z2
  obtain ⟨c0, c1, c2, c3, c4, c5, z0, z1, z2⟩ := HC.out _ hS
  go_wp2_with fail
  refine (line_any _ _ _ i2).mono ?_
  rintro e wN ⟨rfl, hbN⟩
  have hS := HN.out _ _ hS hbN
  clear hbN c0 c1 c2 c3 c4 c5 z0 z1 z2
  obtain ⟨c0, c1, c2, c3, c4, c5, z0, z1, z2⟩ := HC.out _ hS
  go_wp2_with fail
  refine (offset_any _ _ _ i1).mono ?_
  rintro e wN ⟨rfl, hbN⟩
  have hS := HN.out _ _ hS hbN
  clear hbN c0 c1 c2 c3 c4 c5 z0 z1 z2
  obtain ⟨c0, c1, c2, c3, c4, c5, z0, z1, z2⟩ := HC.out _ hS
  go_wp2_with fail
  go_ret
  exact ⟨by simp, HB.out _ hS⟩
set_option maxHeartbeats 8000000 in
set_option maxRecDepth 100000 in
theorem walk10 (a0 a2 a3 a4 a6 : Int) (w : World) (b0 : 0 ≤ a0 ∧ a0 ≤ 4294967295) (h0 : a0 ≤ 4294901748) (h1 : 1 ≤ a2) (h2 : a2 ≤ 4096) (h3 : 1 ≤ a3) (h4 : a3 ≤ 4096) (h5 : 1 ≤ a4) (h6 : a4 ≤ 4096) (h7 : 1 ≤ a6) (h8 : a6 ≤ 4096) :
    Calls Try.prog 12 #[.int .u32 a0, .bool true, .int .u32 a2, .int .u32 a3, .int .u32 a4, .bool false, .int .u32 a6] w fun e w' => e = .returned (.bool true) ∧ Below w.heap.size w w' := by
  go_enter Try.func12, Try.ntmps12
  go_wp2_with (go_at_call 48; refine (mk147_at _ _ _ _ (by omega) (by omega)).mono ?_; rintro e w' ⟨rfl, rfl⟩)
  refine calls_gen (fun W => Below w.heap.size w W ∧ PosIs Try.prog 49 (w.heap.size + 1 + 1 + 1 + 1 + 1 + 1 + 1 + 1 + 1 + 1) (a0) (16385) W ∧ PosIs Try.prog 50 (w.heap.size + 1 + 1 + 1 + 1 + 1 + 1 + 1 + 1 + 1 + 1) (a0 + (a2 + a3 + a4)) (16384 + (1 + (a2 + a3 + a4))) W ∧ W.cell? ⟨w.heap.size + 1 + 1, 0, none⟩ = some (.int .u32 (a0 + a2)) ∧ W.cell? ⟨w.heap.size + 1 + 1, 1, none⟩ = some (.int .u32 (16384 + (1 + a2))) ∧ w.heap.size + 1 + 1 < W.heap.size)
    ⟨by go_grown, (redirPos_litPos (w.heap.size + 1 + 1 + 1 + 1 + 1 + 1 + 1 + 1 + 1 + 1) (w.heap.size + 1 + 1 + 1 + 1 + 1 + 1 + 1 + 1 + 1 + 1 + 1 + 1 + 1 + 1 + 1) a0 16385 _ (by simp [go_sem]) (by simp) (litPos_is (w.heap.size + 1 + 1 + 1 + 1 + 1 + 1 + 1 + 1 + 1 + 1 + 1 + 1 + 1 + 1 + 1) (a0) (16385) _ (by simp [go_sem]) (by simp [go_sem]) (by simp))), (redirEnd_wordEnd (w.heap.size + 1 + 1 + 1 + 1 + 1 + 1 + 1 + 1 + 1 + 1) (w.heap.size + 1 + 1 + 1 + 1 + 1 + 1 + 1 + 1 + 1) (a0 + (a2 + a3 + a4)) (16384 + (1 + (a2 + a3 + a4))) _ (by simp [go_sem]) (by simp [go_sem]) (by simp) (wordEnd_is (w.heap.size + 1 + 1 + 1 + 1 + 1 + 1 + 1 + 1 + 1) (w.heap.size + 1 + 1 + 1 + 1 + 1 + 1 + 1 + 1) (w.heap.size + 1 + 1 + 1 + 1 + 1 + 1 + 1) 1 1 (a0 + (a2 + a3 + a4)) (16384 + (1 + (a2 + a3 + a4))) _ (by omega) (by omega) (by simp [go_sem]) (by simp [go_sem]) (by simp) (by simp) (litEnd_is (w.heap.size + 1 + 1 + 1 + 1 + 1 + 1 + 1) (a0 + (a2 + a3 + a4)) (16384 + (1 + (a2 + a3 + a4))) _ (by simp [go_sem]) (by simp [go_sem]) (by simp)))), (by simp [go_sem]), (by simp [go_sem]), by simp⟩ ?_
  rintro W ⟨hB, hP, hE, k0, k1, kz⟩
  obtain ⟨eo, heo⟩ : ∃ x : Int, x = a0 + (a2 + a3 + a4) := ⟨_, rfl⟩
  obtain ⟨el, hel⟩ : ∃ x : Int, x = 16384 + (1 + (a2 + a3 + a4)) := ⟨_, rfl⟩
  obtain ⟨oo, hoo⟩ : ∃ x : Int, x = a0 + a2 := ⟨_, rfl⟩
  obtain ⟨ol, hol⟩ : ∃ x : Int, x = 16384 + (1 + a2) := ⟨_, rfl⟩
  rw [← heo, ← hel] at hE
  rw [← hoo] at k0
  rw [← hol] at k1
  have e1 : offOf eo = eo := off_in _ (by omega)
  have e2 : offOf oo = oo := off_in _ (by omega)
  have e3 : offOf a0 = a0 := off_in _ (by omega)
  have e4 : lineOf el = 1 := by unfold lineOf; omega
  have e5 : validB eo el = true := by simp [validB]; omega
  have e6 : decide (a0 < eo) = true := by simp; omega
  have e7 : decide (eo < a0) = false := by simp; omega
  have i1 : 0 ≤ eo ∧ eo ≤ 4294967295 := by omega
  have i2 : 0 ≤ el ∧ el ≤ 4294967295 := by omega
  have i3 : 0 ≤ oo ∧ oo ≤ 4294967295 := by omega
  have j1 : a0 ≤ oo := by omega
  have j2 : oo < eo := by omega
  have j3 : (eo == a0 + (a2 + a3 + a4)) = true := by simp [heo]
  have HE := Lib.hid hE
  clear hE heo hel hoo hol
  refine (hP.now).mono ?_
  rintro e w1 ⟨rfl, hb1⟩
  have HE1 := Lib.hid (HE.out.grow hb1)
  clear hP HE
  obtain ⟨S, hS, hSn, hSB, hSc⟩ := cells_after w _ _ hb1 [(⟨w.heap.size + 1 + 1, 0, none⟩, .int .u32 oo), (⟨w.heap.size + 1 + 1, 1, none⟩, .int .u32 ol)] (by go_grown) (by intro p hp; simp only [List.mem_cons, List.not_mem_nil, or_false] at hp; rcases hp with rfl | rfl <;> exact ⟨by first | assumption | (simp [go_sem]; done) | (refine cell_alloc ?_; assumption) | (refine cell_alloc (cell_alloc ?_); assumption) | (refine cell_alloc (cell_alloc (cell_alloc ?_)); assumption), by first | (simp; omega) | (simp; done)⟩)
  have HC := Lib.hid (show ∀ W, S W → W.cell? ⟨w.heap.size + 1 + 1, 0, none⟩ = some (.int .u32 oo) ∧ W.cell? ⟨w.heap.size + 1 + 1, 1, none⟩ = some (.int .u32 ol) ∧ w.heap.size + 1 + 1 < W.heap.size from fun W h => ⟨(hSc W h (⟨w.heap.size + 1 + 1, 0, none⟩, .int .u32 oo) (by simp)).1, (hSc W h (⟨w.heap.size + 1 + 1, 1, none⟩, .int .u32 ol) (by simp)).1, (hSc W h (⟨w.heap.size + 1 + 1, 0, none⟩, .int .u32 oo) (by simp)).2⟩)
  have HN := Lib.hid hSn
  have HB := Lib.hid hSB
  clear hSn hSB hSc hb1 
  obtain ⟨c0, c1, z0⟩ := HC.out _ hS
  go_wp2_with fail
  refine (HE1.out.grow (by go_grown)).now.mono ?_
  rintro e w2 ⟨rfl, hb2⟩
  clear HE1
  have hBw := HB.out _ hS
  clear HC HN HB
  obtain ⟨S, hS, hSn, hSB, hSc⟩ := cells_after w _ _ hb2 [(⟨w.heap.size + 1 + 1, 0, none⟩, .int .u32 oo), (⟨w.heap.size + 1 + 1, 1, none⟩, .int .u32 ol), (⟨w1.heap.size, 0, none⟩, .int .u32 a0), (⟨w1.heap.size, 1, none⟩, .int .u32 16385)] (by go_grown) (by intro p hp; simp only [List.mem_cons, List.not_mem_nil, or_false] at hp; rcases hp with rfl | rfl | rfl | rfl <;> exact ⟨by first | assumption | (simp [go_sem]; done) | (refine cell_alloc ?_; assumption) | (refine cell_alloc (cell_alloc ?_); assumption) | (refine cell_alloc (cell_alloc (cell_alloc ?_)); assumption), by first | (simp; omega) | (simp; done)⟩)
  have HC := Lib.hid (show ∀ W, S W → W.cell? ⟨w.heap.size + 1 + 1, 0, none⟩ = some (.int .u32 oo) ∧ W.cell? ⟨w.heap.size + 1 + 1, 1, none⟩ = some (.int .u32 ol) ∧ W.cell? ⟨w1.heap.size, 0, none⟩ = some (.int .u32 a0) ∧ W.cell? ⟨w1.heap.size, 1, none⟩ = some (.int .u32 16385) ∧ w.heap.size + 1 + 1 < W.heap.size ∧ w1.heap.size < W.heap.size from fun W h => ⟨(hSc W h (⟨w.heap.size + 1 + 1, 0, none⟩, .int .u32 oo) (by simp)).1, (hSc W h (⟨w.heap.size + 1 + 1, 1, none⟩, .int .u32 ol) (by simp)).1, (hSc W h (⟨w1.heap.size, 0, none⟩, .int .u32 a0) (by simp)).1, (hSc W h (⟨w1.heap.size, 1, none⟩, .int .u32 16385) (by simp)).1, (hSc W h (⟨w.heap.size + 1 + 1, 0, none⟩, .int .u32 oo) (by simp)).2, (hSc W h (⟨w1.heap.size, 0, none⟩, .int .u32 a0) (by simp)).2⟩)
  have HN := Lib.hid hSn
  have HB := Lib.hid hSB
  clear hSn hSB hSc hb2 c0 c1 z0
  obtain ⟨c0, c1, c2, c3, z0, z1⟩ := HC.out _ hS
  go_wp2_with fail
  have hBw := HB.out _ hS
  clear HC HN HB
  obtain ⟨S, hS, hSn, hSB, hSc⟩ := cells_word w (w2.alloc (.cells #[.int .u32 eo, .int .u32 el] 25)) [(⟨w.heap.size + 1 + 1, 0, none⟩, .int .u32 oo), (⟨w.heap.size + 1 + 1, 1, none⟩, .int .u32 ol), (⟨w1.heap.size, 0, none⟩, .int .u32 a0), (⟨w1.heap.size, 1, none⟩, .int .u32 16385), (⟨w2.heap.size, 0, none⟩, .int .u32 eo), (⟨w2.heap.size, 1, none⟩, .int .u32 el)] (by go_grown) (by intro p hp; simp only [List.mem_cons, List.not_mem_nil, or_false] at hp; rcases hp with rfl | rfl | rfl | rfl | rfl | rfl <;> exact ⟨by first | assumption | (simp [go_sem]; done) | (refine cell_alloc ?_; assumption) | (refine cell_alloc (cell_alloc ?_); assumption) | (refine cell_alloc (cell_alloc (cell_alloc ?_)); assumption), by first | (simp; omega) | (simp; done)⟩)
  have HC := Lib.hid (show ∀ W, S W → W.cell? ⟨w.heap.size + 1 + 1, 0, none⟩ = some (.int .u32 oo) ∧ W.cell? ⟨w.heap.size + 1 + 1, 1, none⟩ = some (.int .u32 ol) ∧ W.cell? ⟨w1.heap.size, 0, none⟩ = some (.int .u32 a0) ∧ W.cell? ⟨w1.heap.size, 1, none⟩ = some (.int .u32 16385) ∧ W.cell? ⟨w2.heap.size, 0, none⟩ = some (.int .u32 eo) ∧ W.cell? ⟨w2.heap.size, 1, none⟩ = some (.int .u32 el) ∧ w.heap.size + 1 + 1 < W.heap.size ∧ w1.heap.size < W.heap.size ∧ w2.heap.size < W.heap.size from fun W h => ⟨(hSc W h (⟨w.heap.size + 1 + 1, 0, none⟩, .int .u32 oo) (by simp)).1, (hSc W h (⟨w.heap.size + 1 + 1, 1, none⟩, .int .u32 ol) (by simp)).1, (hSc W h (⟨w1.heap.size, 0, none⟩, .int .u32 a0) (by simp)).1, (hSc W h (⟨w1.heap.size, 1, none⟩, .int .u32 16385) (by simp)).1, (hSc W h (⟨w2.heap.size, 0, none⟩, .int .u32 eo) (by simp)).1, (hSc W h (⟨w2.heap.size, 1, none⟩, .int .u32 el) (by simp)).1, (hSc W h (⟨w.heap.size + 1 + 1, 0, none⟩, .int .u32 oo) (by simp)).2, (hSc W h (⟨w1.heap.size, 0, none⟩, .int .u32 a0) (by simp)).2, (hSc W h (⟨w2.heap.size, 0, none⟩, .int .u32 eo) (by simp)).2⟩)
  have HN := Lib.hid hSn
  have HB := Lib.hid hSB
  clear hSn hSB hSc  c0 c1 c2 c3 z0 z1
  obtain ⟨c0, c1, c2, c3, c4, c5, z0, z1, z2⟩ := HC.out _ hS
  go_region_held3 (fun W9 => S W9 ∧ W9.cell? ⟨w.heap.size + 1 + 1, 0, none⟩ = some (.int .u32 oo) ∧ W9.cell? ⟨w.heap.size + 1 + 1, 1, none⟩ = some (.int .u32 ol) ∧ W9.cell? ⟨w1.heap.size, 0, none⟩ = some (.int .u32 a0) ∧ W9.cell? ⟨w1.heap.size, 1, none⟩ = some (.int .u32 16385) ∧ W9.cell? ⟨w2.heap.size, 0, none⟩ = some (.int .u32 eo) ∧ W9.cell? ⟨w2.heap.size, 1, none⟩ = some (.int .u32 el))
    (first | (have hS9 := hS; exact ⟨hS9, c0, c1, c2, c3, c4, c5⟩) | (have hS9 := HN.out _ _ hS (below_drew _); obtain ⟨c0, c1, c2, c3, c4, c5, z0, z1, z2⟩ := HC.out _ hS9; exact ⟨hS9, c0, c1, c2, c3, c4, c5⟩))
    (first | (go_at_call 18; refine (offset_any _ _ _ (by assumption)).mono ?_; rintro e wN ⟨rfl, hbN⟩; have hS := HN.out _ _ (And.left (by assumption)) hbN; clear hbN; obtain ⟨c0, c1, c2, c3, c4, c5, z0, z1, z2⟩ := HC.out _ hS))
  go_wp2_with fail
  go_region_held3 (fun W9 => S W9 ∧ W9.cell? ⟨w.heap.size + 1 + 1, 0, none⟩ = some (.int .u32 oo) ∧ W9.cell? ⟨w.heap.size + 1 + 1, 1, none⟩ = some (.int .u32 ol) ∧ W9.cell? ⟨w1.heap.size, 0, none⟩ = some (.int .u32 a0) ∧ W9.cell? ⟨w1.heap.size, 1, none⟩ = some (.int .u32 16385) ∧ W9.cell? ⟨w2.heap.size, 0, none⟩ = some (.int .u32 eo) ∧ W9.cell? ⟨w2.heap.size, 1, none⟩ = some (.int .u32 el))
    (first | (have hS9 := hS; exact ⟨hS9, c0, c1, c2, c3, c4, c5⟩) | (have hS9 := HN.out _ _ hS (below_drew _); obtain ⟨c0, c1, c2, c3, c4, c5, z0, z1, z2⟩ := HC.out _ hS9; exact ⟨hS9, c0, c1, c2, c3, c4, c5⟩))
    (first | (go_at_call 18; refine (offset_any _ _ _ (by assumption)).mono ?_; rintro e wN ⟨rfl, hbN⟩; have hS := HN.out _ _ (And.left (by assumption)) hbN; clear hbN; obtain ⟨c0, c1, c2, c3, c4, c5, z0, z1, z2⟩ := HC.out _ hS))
  go_wp2_with fail
  refine (after_any _ _ _ _ _ i1 i2).mono ?_
  rintro e wN ⟨rfl, hbN⟩
  have hS := HN.out _ _ hS hbN
  clear hbN c0 c1 c2 c3 c4 c5 z0 z1 z2
  obtain ⟨c0, c1, c2, c3, c4, c5, z0, z1, z2⟩ := HC.out _ hS
  go_wp2_with fail
  refine (after_any _ _ _ _ _ b0 (by omega)).mono ?_
  rintro e wN ⟨rfl, hbN⟩
  have hS := HN.out _ _ hS hbN
  clear hbN c0 c1 c2 c3 c4 c5 z0 z1 z2
  obtain ⟨c0, c1, c2, c3, c4, c5, z0, z1, z2⟩ := HC.out _ hS
  go_wp2_with fail
  refine (line_any _ _ _ i2).mono ?_
  rintro e wN ⟨rfl, hbN⟩
  have hS := HN.out _ _ hS hbN
  clear hbN c0 c1 c2 c3 c4 c5 z0 z1 z2
  obtain ⟨c0, c1, c2, c3, c4, c5, z0, z1, z2⟩ := HC.out _ hS
  go_wp2_with fail
  refine (offset_any _ _ _ i1).mono ?_
  rintro e wN ⟨rfl, hbN⟩
  have hS := HN.out _ _ hS hbN
  clear hbN c0 c1 c2 c3 c4 c5 z0 z1 z2
  obtain ⟨c0, c1, c2, c3, c4, c5, z0, z1, z2⟩ := HC.out _ hS
  go_wp2_with fail
  go_ret
  exact ⟨by simp, HB.out _ hS⟩
set_option maxHeartbeats 8000000 in
set_option maxRecDepth 100000 in
theorem walk11 (a0 a2 a3 a4 a6 : Int) (w : World) (b0 : 0 ≤ a0 ∧ a0 ≤ 4294967295) (h0 : a0 ≤ 4294901748) (h1 : 1 ≤ a2) (h2 : a2 ≤ 4096) (h3 : 1 ≤ a3) (h4 : a3 ≤ 4096) (h5 : 1 ≤ a4) (h6 : a4 ≤ 4096) (h7 : 1 ≤ a6) (h8 : a6 ≤ 4096) :
    Calls Try.prog 12 #[.int .u32 a0, .bool true, .int .u32 a2, .int .u32 a3, .int .u32 a4, .bool true, .int .u32 a6] w fun e w' => e = .returned (.bool true) ∧ Below w.heap.size w w' := by
  go_enter Try.func12, Try.ntmps12
  go_wp2_with (go_at_call 48; refine (mk147_at _ _ _ _ (by omega) (by omega)).mono ?_; rintro e w' ⟨rfl, rfl⟩)
  refine calls_gen (fun W => Below w.heap.size w W ∧ PosIs Try.prog 49 (w.heap.size + 1 + 1 + 1 + 1 + 1 + 1 + 1 + 1 + 1 + 1) (a0) (16385) W ∧ PosIs Try.prog 50 (w.heap.size + 1 + 1 + 1 + 1 + 1 + 1 + 1 + 1 + 1 + 1) (a0 + (a2 + a3 + a4) + 1 + a6) (32768 + (1 + a6)) W ∧ W.cell? ⟨w.heap.size + 1 + 1, 0, none⟩ = some (.int .u32 (a0 + a2)) ∧ W.cell? ⟨w.heap.size + 1 + 1, 1, none⟩ = some (.int .u32 (16384 + (1 + a2))) ∧ w.heap.size + 1 + 1 < W.heap.size)
    ⟨by go_grown, (redirPos_litPos (w.heap.size + 1 + 1 + 1 + 1 + 1 + 1 + 1 + 1 + 1 + 1) (w.heap.size + 1 + 1 + 1 + 1 + 1 + 1 + 1 + 1 + 1 + 1 + 1 + 1 + 1 + 1 + 1) a0 16385 _ (by simp [go_sem]) (by simp) (litPos_is (w.heap.size + 1 + 1 + 1 + 1 + 1 + 1 + 1 + 1 + 1 + 1 + 1 + 1 + 1 + 1 + 1) (a0) (16385) _ (by simp [go_sem]) (by simp [go_sem]) (by simp))), (redirEnd_hdoc (w.heap.size + 1 + 1 + 1 + 1 + 1 + 1 + 1 + 1 + 1 + 1) (w.heap.size + 1 + 1 + 1 + 1 + 1 + 1 + 1 + 1 + 1 + 1 + 1 + 1 + 1 + 1 + 1 + 1 + 1 + 1 + 1 + 1 + 1 + 1) (a0 + (a2 + a3 + a4) + 1 + a6) (32768 + (1 + a6)) _ (by simp [go_sem]) (by simp) (wordEnd_is (w.heap.size + 1 + 1 + 1 + 1 + 1 + 1 + 1 + 1 + 1 + 1 + 1 + 1 + 1 + 1 + 1 + 1 + 1 + 1 + 1 + 1 + 1 + 1) (w.heap.size + 1 + 1 + 1 + 1 + 1 + 1 + 1 + 1 + 1 + 1 + 1 + 1 + 1 + 1 + 1 + 1 + 1 + 1 + 1 + 1 + 1) (w.heap.size + 1 + 1 + 1 + 1 + 1 + 1 + 1 + 1 + 1 + 1 + 1 + 1 + 1 + 1 + 1 + 1 + 1 + 1 + 1 + 1) 1 1 (a0 + (a2 + a3 + a4) + 1 + a6) (32768 + (1 + a6)) _ (by omega) (by omega) (by simp [go_sem]) (by simp [go_sem]) (by simp) (by simp) (litEnd_is (w.heap.size + 1 + 1 + 1 + 1 + 1 + 1 + 1 + 1 + 1 + 1 + 1 + 1 + 1 + 1 + 1 + 1 + 1 + 1 + 1 + 1) (a0 + (a2 + a3 + a4) + 1 + a6) (32768 + (1 + a6)) _ (by simp [go_sem]) (by simp [go_sem]) (by simp)))), (by simp [go_sem]), (by simp [go_sem]), by simp⟩ ?_
  rintro W ⟨hB, hP, hE, k0, k1, kz⟩
  obtain ⟨eo, heo⟩ : ∃ x : Int, x = a0 + (a2 + a3 + a4) + 1 + a6 := ⟨_, rfl⟩
  obtain ⟨el, hel⟩ : ∃ x : Int, x = 32768 + (1 + a6) := ⟨_, rfl⟩
  obtain ⟨oo, hoo⟩ : ∃ x : Int, x = a0 + a2 := ⟨_, rfl⟩
  obtain ⟨ol, hol⟩ : ∃ x : Int, x = 16384 + (1 + a2) := ⟨_, rfl⟩
  rw [← heo, ← hel] at hE
  rw [← hoo] at k0
  rw [← hol] at k1
  have e1 : offOf eo = eo := off_in _ (by omega)
  have e2 : offOf oo = oo := off_in _ (by omega)
  have e3 : offOf a0 = a0 := off_in _ (by omega)
  have e4 : lineOf el = 2 := by unfold lineOf; omega
  have e5 : validB eo el = true := by simp [validB]; omega
  have e6 : decide (a0 < eo) = true := by simp; omega
  have e7 : decide (eo < a0) = false := by simp; omega
  have i1 : 0 ≤ eo ∧ eo ≤ 4294967295 := by omega
  have i2 : 0 ≤ el ∧ el ≤ 4294967295 := by omega
  have i3 : 0 ≤ oo ∧ oo ≤ 4294967295 := by omega
  have j1 : a0 ≤ oo := by omega
  have j2 : oo < eo := by omega
  have j3 : a0 + (a2 + a3 + a4) < eo := by omega
  have HE := Lib.hid hE
  clear hE heo hel hoo hol
  refine (hP.now).mono ?_
  rintro e w1 ⟨rfl, hb1⟩
  have HE1 := Lib.hid (HE.out.grow hb1)
  clear hP HE
  obtain ⟨S, hS, hSn, hSB, hSc⟩ := cells_after w _ _ hb1 [(⟨w.heap.size + 1 + 1, 0, none⟩, .int .u32 oo), (⟨w.heap.size + 1 + 1, 1, none⟩, .int .u32 ol)] (by go_grown) (by intro p hp; simp only [List.mem_cons, List.not_mem_nil, or_false] at hp; rcases hp with rfl | rfl <;> exact ⟨by first | assumption | (simp [go_sem]; done) | (refine cell_alloc ?_; assumption) | (refine cell_alloc (cell_alloc ?_); assumption) | (refine cell_alloc (cell_alloc (cell_alloc ?_)); assumption), by first | (simp; omega) | (simp; done)⟩)
  have HC := Lib.hid (show ∀ W, S W → W.cell? ⟨w.heap.size + 1 + 1, 0, none⟩ = some (.int .u32 oo) ∧ W.cell? ⟨w.heap.size + 1 + 1, 1, none⟩ = some (.int .u32 ol) ∧ w.heap.size + 1 + 1 < W.heap.size from fun W h => ⟨(hSc W h (⟨w.heap.size + 1 + 1, 0, none⟩, .int .u32 oo) (by simp)).1, (hSc W h (⟨w.heap.size + 1 + 1, 1, none⟩, .int .u32 ol) (by simp)).1, (hSc W h (⟨w.heap.size + 1 + 1, 0, none⟩, .int .u32 oo) (by simp)).2⟩)
  have HN := Lib.hid hSn
  have HB := Lib.hid hSB
  clear hSn hSB hSc hb1 
  obtain ⟨c0, c1, z0⟩ := HC.out _ hS
  go_wp2_with fail
  refine (HE1.out.grow (by go_grown)).now.mono ?_
  rintro e w2 ⟨rfl, hb2⟩
  clear HE1
  have hBw := HB.out _ hS
  clear HC HN HB
  obtain ⟨S, hS, hSn, hSB, hSc⟩ := cells_after w _ _ hb2 [(⟨w.heap.size + 1 + 1, 0, none⟩, .int .u32 oo), (⟨w.heap.size + 1 + 1, 1, none⟩, .int .u32 ol), (⟨w1.heap.size, 0, none⟩, .int .u32 a0), (⟨w1.heap.size, 1, none⟩, .int .u32 16385)] (by go_grown) (by intro p hp; simp only [List.mem_cons, List.not_mem_nil, or_false] at hp; rcases hp with rfl | rfl | rfl | rfl <;> exact ⟨by first | assumption | (simp [go_sem]; done) | (refine cell_alloc ?_; assumption) | (refine cell_alloc (cell_alloc ?_); assumption) | (refine cell_alloc (cell_alloc (cell_alloc ?_)); assumption), by first | (simp; omega) | (simp; done)⟩)
  have HC := Lib.hid (show ∀ W, S W → W.cell? ⟨w.heap.size + 1 + 1, 0, none⟩ = some (.int .u32 oo) ∧ W.cell? ⟨w.heap.size + 1 + 1, 1, none⟩ = some (.int .u32 ol) ∧ W.cell? ⟨w1.heap.size, 0, none⟩ = some (.int .u32 a0) ∧ W.cell? ⟨w1.heap.size, 1, none⟩ = some (.int .u32 16385) ∧ w.heap.size + 1 + 1 < W.heap.size ∧ w1.heap.size < W.heap.size from fun W h => ⟨(hSc W h (⟨w.heap.size + 1 + 1, 0, none⟩, .int .u32 oo) (by simp)).1, (hSc W h (⟨w.heap.size + 1 + 1, 1, none⟩, .int .u32 ol) (by simp)).1, (hSc W h (⟨w1.heap.size, 0, none⟩, .int .u32 a0) (by simp)).1, (hSc W h (⟨w1.heap.size, 1, none⟩, .int .u32 16385) (by simp)).1, (hSc W h (⟨w.heap.size + 1 + 1, 0, none⟩, .int .u32 oo) (by simp)).2, (hSc W h (⟨w1.heap.size, 0, none⟩, .int .u32 a0) (by simp)).2⟩)
  have HN := Lib.hid hSn
  have HB := Lib.hid hSB
  clear hSn hSB hSc hb2 c0 c1 z0
  obtain ⟨c0, c1, c2, c3, z0, z1⟩ := HC.out _ hS
  go_wp2_with fail
  have hBw := HB.out _ hS
  clear HC HN HB
  obtain ⟨S, hS, hSn, hSB, hSc⟩ := cells_word w (w2.alloc (.cells #[.int .u32 eo, .int .u32 el] 25)) [(⟨w.heap.size + 1 + 1, 0, none⟩, .int .u32 oo), (⟨w.heap.size + 1 + 1, 1, none⟩, .int .u32 ol), (⟨w1.heap.size, 0, none⟩, .int .u32 a0), (⟨w1.heap.size, 1, none⟩, .int .u32 16385), (⟨w2.heap.size, 0, none⟩, .int .u32 eo), (⟨w2.heap.size, 1, none⟩, .int .u32 el)] (by go_grown) (by intro p hp; simp only [List.mem_cons, List.not_mem_nil, or_false] at hp; rcases hp with rfl | rfl | rfl | rfl | rfl | rfl <;> exact ⟨by first | assumption | (simp [go_sem]; done) | (refine cell_alloc ?_; assumption) | (refine cell_alloc (cell_alloc ?_); assumption) | (refine cell_alloc (cell_alloc (cell_alloc ?_)); assumption), by first | (simp; omega) | (simp; done)⟩)
  have HC := Lib.hid (show ∀ W, S W → W.cell? ⟨w.heap.size + 1 + 1, 0, none⟩ = some (.int .u32 oo) ∧ W.cell? ⟨w.heap.size + 1 + 1, 1, none⟩ = some (.int .u32 ol) ∧ W.cell? ⟨w1.heap.size, 0, none⟩ = some (.int .u32 a0) ∧ W.cell? ⟨w1.heap.size, 1, none⟩ = some (.int .u32 16385) ∧ W.cell? ⟨w2.heap.size, 0, none⟩ = some (.int .u32 eo) ∧ W.cell? ⟨w2.heap.size, 1, none⟩ = some (.int .u32 el) ∧ w.heap.size + 1 + 1 < W.heap.size ∧ w1.heap.size < W.heap.size ∧ w2.heap.size < W.heap.size from fun W h => ⟨(hSc W h (⟨w.heap.size + 1 + 1, 0, none⟩, .int .u32 oo) (by simp)).1, (hSc W h (⟨w.heap.size + 1 + 1, 1, none⟩, .int .u32 ol) (by simp)).1, (hSc W h (⟨w1.heap.size, 0, none⟩, .int .u32 a0) (by simp)).1, (hSc W h (⟨w1.heap.size, 1, none⟩, .int .u32 16385) (by simp)).1, (hSc W h (⟨w2.heap.size, 0, none⟩, .int .u32 eo) (by simp)).1, (hSc W h (⟨w2.heap.size, 1, none⟩, .int .u32 el) (by simp)).1, (hSc W h (⟨w.heap.size + 1 + 1, 0, none⟩, .int .u32 oo) (by simp)).2, (hSc W h (⟨w1.heap.size, 0, none⟩, .int .u32 a0) (by simp)).2, (hSc W h (⟨w2.heap.size, 0, none⟩, .int .u32 eo) (by simp)).2⟩)
  have HN := Lib.hid hSn
  have HB := Lib.hid hSB
  clear hSn hSB hSc  c0 c1 c2 c3 z0 z1
  obtain ⟨c0, c1, c2, c3, c4, c5, z0, z1, z2⟩ := HC.out _ hS
  go_region_held3 (fun W9 => S W9 ∧ W9.cell? ⟨w.heap.size + 1 + 1, 0, none⟩ = some (.int .u32 oo) ∧ W9.cell? ⟨w.heap.size + 1 + 1, 1, none⟩ = some (.int .u32 ol) ∧ W9.cell? ⟨w1.heap.size, 0, none⟩ = some (.int .u32 a0) ∧ W9.cell? ⟨w1.heap.size, 1, none⟩ = some (.int .u32 16385) ∧ W9.cell? ⟨w2.heap.size, 0, none⟩ = some (.int .u32 eo) ∧ W9.cell? ⟨w2.heap.size, 1, none⟩ = some (.int .u32 el))
    (first | (have hS9 := hS; exact ⟨hS9, c0, c1, c2, c3, c4, c5⟩) | (have hS9 := HN.out _ _ hS (below_drew _); obtain ⟨c0, c1, c2, c3, c4, c5, z0, z1, z2⟩ := HC.out _ hS9; exact ⟨hS9, c0, c1, c2, c3, c4, c5⟩))
    (first | (go_at_call 18; refine (offset_any _ _ _ (by assumption)).mono ?_; rintro e wN ⟨rfl, hbN⟩; have hS := HN.out _ _ (And.left (by assumption)) hbN; clear hbN; obtain ⟨c0, c1, c2, c3, c4, c5, z0, z1, z2⟩ := HC.out _ hS))
  go_wp2_with fail
  go_region_held3 (fun W9 => S W9 ∧ W9.cell? ⟨w.heap.size + 1 + 1, 0, none⟩ = some (.int .u32 oo) ∧ W9.cell? ⟨w.heap.size + 1 + 1, 1, none⟩ = some (.int .u32 ol) ∧ W9.cell? ⟨w1.heap.size, 0, none⟩ = some (.int .u32 a0) ∧ W9.cell? ⟨w1.heap.size, 1, none⟩ = some (.int .u32 16385) ∧ W9.cell? ⟨w2.heap.size, 0, none⟩ = some (.int .u32 eo) ∧ W9.cell? ⟨w2.heap.size, 1, none⟩ = some (.int .u32 el))
    (first | (have hS9 := hS; exact ⟨hS9, c0, c1, c2, c3, c4, c5⟩) | (have hS9 := HN.out _ _ hS (below_drew _); obtain ⟨c0, c1, c2, c3, c4, c5, z0, z1, z2⟩ := HC.out _ hS9; exact ⟨hS9, c0, c1, c2, c3, c4, c5⟩))
    (first | (go_at_call 18; refine (offset_any _ _ _ (by assumption)).mono ?_; rintro e wN ⟨rfl, hbN⟩; have hS := HN.out _ _ (And.left (by assumption)) hbN; clear hbN; obtain ⟨c0, c1, c2, c3, c4, c5, z0, z1, z2⟩ := HC.out _ hS))
  go_wp2_with fail
  refine (after_any _ _ _ _ _ i1 i2).mono ?_
  rintro e wN ⟨rfl, hbN⟩
  have hS := HN.out _ _ hS hbN
  clear hbN c0 c1 c2 c3 c4 c5 z0 z1 z2
  obtain ⟨c0, c1, c2, c3, c4, c5, z0, z1, z2⟩ := HC.out _ hS
  go_wp2_with fail
  refine (after_any _ _ _ _ _ b0 (by omega)).mono ?_
  rintro e wN ⟨rfl, hbN⟩
  have hS := HN.out _ _ hS hbN
  clear hbN c0 c1 c2 c3 c4 c5 z0 z1 z2
  obtain ⟨c0, c1, c2, c3, c4, c5, z0, z1, z2⟩ := HC.out _ hS
  go_wp2_with fail
  refine (line_any _ _ _ i2).mono ?_
  rintro e wN ⟨rfl, hbN⟩
  have hS := HN.out _ _ hS hbN
  clear hbN c0 c1 c2 c3 c4 c5 z0 z1 z2
  obtain ⟨c0, c1, c2, c3, c4, c5, z0, z1, z2⟩ := HC.out _ hS
  go_wp2_with fail
  refine (offset_any _ _ _ i1).mono ?_
  rintro e wN ⟨rfl, hbN⟩
  have hS := HN.out _ _ hS hbN
  clear hbN c0 c1 c2 c3 c4 c5 z0 z1 z2
  obtain ⟨c0, c1, c2, c3, c4, c5, z0, z1, z2⟩ := HC.out _ hS
  go_wp2_with fail
  go_ret
  exact ⟨by simp, HB.out _ hS⟩

set_option maxHeartbeats 4000000 in
set_option maxRecDepth 100000 in
theorem walk (a0 : Int) (a1 : Bool) (a2 : Int) (a3 : Int) (a4 : Int) (a5 : Bool) (a6 : Int) (w : World) (w0 : (Lit.int .u32 a0).wf = true) (w2 : (Lit.int .u32 a2).wf = true) (w3 : (Lit.int .u32 a3).wf = true) (w4 : (Lit.int .u32 a4).wf = true) (w6 : (Lit.int .u32 a6).wf = true) :
    Calls Try.prog 12 #[.int .u32 a0, .bool a1, .int .u32 a2, .int .u32 a3, .int .u32 a4, .bool a5, .int .u32 a6] w fun e w' => e = .returned (.bool true) ∧ Below w.heap.size w w' := by
  have b0 := bounds_u32 w0
  have b2 := bounds_u32 w2
  have b3 := bounds_u32 w3
  have b4 := bounds_u32 w4
  have b6 := bounds_u32 w6
  clear w0 w2 w3 w4 w6
  by_cases h0 : 4294901748 < a0
  · go_enter Try.func12, Try.ntmps12
    go_wp2
    go_ret
    exact ⟨rfl, by go_grown⟩
  by_cases h1 : a2 < 1
  · go_enter Try.func12, Try.ntmps12
    go_wp2
    go_ret
    exact ⟨rfl, by go_grown⟩
  by_cases h2 : 4096 < a2
  · go_enter Try.func12, Try.ntmps12
    go_wp2
    go_ret
    exact ⟨rfl, by go_grown⟩
  by_cases h3 : a3 < 1
  · go_enter Try.func12, Try.ntmps12
    go_wp2
    go_ret
    exact ⟨rfl, by go_grown⟩
  by_cases h4 : 4096 < a3
  · go_enter Try.func12, Try.ntmps12
    go_wp2
    go_ret
    exact ⟨rfl, by go_grown⟩
  by_cases h5 : a4 < 1
  · go_enter Try.func12, Try.ntmps12
    go_wp2
    go_ret
    exact ⟨rfl, by go_grown⟩
  by_cases h6 : 4096 < a4
  · go_enter Try.func12, Try.ntmps12
    go_wp2
    go_ret
    exact ⟨rfl, by go_grown⟩
  by_cases h7 : a6 < 1
  · go_enter Try.func12, Try.ntmps12
    go_wp2
    go_ret
    exact ⟨rfl, by go_grown⟩
  by_cases h8 : 4096 < a6
  · go_enter Try.func12, Try.ntmps12
    go_wp2
    go_ret
    exact ⟨rfl, by go_grown⟩
  cases a1
  · cases a5
    · exact walk00 a0 a2 a3 a4 a6 w b0 (by omega) (by omega) (by omega) (by omega) (by omega) (by omega) (by omega) (by omega) (by omega)
    · exact walk01 a0 a2 a3 a4 a6 w b0 (by omega) (by omega) (by omega) (by omega) (by omega) (by omega) (by omega) (by omega) (by omega)
  · cases a5
    · exact walk10 a0 a2 a3 a4 a6 w b0 (by omega) (by omega) (by omega) (by omega) (by omega) (by omega) (by omega) (by omega) (by omega)
    · exact walk11 a0 a2 a3 a4 a6 w b0 (by omega) (by omega) (by omega) (by omega) (by omega) (by omega) (by omega) (by omega) (by omega)
end Go.Proofs.Ytdphohobnmfbnaa.fnRedirectSpanOrdered
