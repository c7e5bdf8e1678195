/- The walk of FnExtGlobEndStepBound: the Go text returns true. Conditions: none beyond the kinds. -/
import Derived.Test.YthmbphgpkpjopaaEnds
import Derived.OpenShut
import Derived.Outline
import Derived.Deep.RegionHeld3
import Derived.Deep.RegionWith
namespace Go.Proofs.Ythmbphgpkpjopaa.fnExtGlobEndStepBound
open Go.RowKit
set_option linter.unusedVariables false

set_option maxHeartbeats 400000 in
theorem extEnd_any (b c : Nat) (o lc : Int) (w : World) (ho : 0 ≤ o ∧ o ≤ 4294967295) (hl : 0 ≤ lc ∧ lc ≤ 4294967295) (hp : w.cell? ⟨b, 3, none⟩ = some (.pointer (some ⟨c, 0, none⟩))) (h0 : w.cell? ⟨c, 2, none⟩ = some (.int .u32 o)) (h1 : w.cell? ⟨c, 3, none⟩ = some (.int .u32 lc)) (hb : b < w.heap.size) (hc : c < w.heap.size) :
    Calls Try.prog 8 #[.pointer (some ⟨b, 0, none⟩)] w fun e w' => e = .returned (.agg #[.int .u32 (addO o lc 1), .int .u32 (addLc o lc 1)]) ∧ Below w.heap.size w w' := by
  go_enter Try.func8, Try.ntmps8
  go_wp2_with fail
  refine (litEnd_any _ o lc _ (cell_alloc h0) (cell_alloc h1) (by simp; omega)).mono ?_
  rintro e w1 ⟨rfl, hb1⟩
  go_wp2_with fail
  refine (addCol_any _ _ _ _ ho hl (by omega)).mono ?_
  rintro e w2 ⟨rfl, hb2⟩
  have hb3 := below_next hb1 hb2
  obtain ⟨k0, k1, f0, f1, hB⟩ := slot_after hb3
  clear hb1 hb2 hb3
  go_wp2_with fail
  exact bodyPost_ret (v := .agg #[.int .u32 (addO o lc 1), .int .u32 (addLc o lc 1)]) (by simp [results, Try.results8, go_sem, k0, k1]) rfl ⟨rfl, by go_grown⟩

theorem plain_in (o l : Int) (b : 0 ≤ o) (h : o ≤ 4294967284) (n : l ≠ 0) :
    offOf o ≤ offOf (addO o l 1) ∧ offOf (addO o l 1) ≤ offOf o + 1 ∧ lineOf (addLc o l 1) = lineOf l ∧ validB o l = true ∧ 0 ≤ offOf o ∧ offOf o ≤ 4294967284 := by
  have hv : validB o l = true := by simp [validB]; omega
  have hc := addCol_in l 1
  have e2 : addLc o l 1 = l / 16384 * 16384 + addCol l 1 := by rw [addLc, if_pos hv]
  have e0 : offOf o = o := by unfold offOf; rw [if_neg (by omega)]
  rw [e2, addO, if_pos hv, e0]
  refine ⟨?_, ?_, by unfold lineOf; omega, hv, b, h⟩
  all_goals
    unfold offOf
    repeat' split
    all_goals omega

theorem plain_out (o l : Int) (h : 4294967284 < o ∨ l = 0) : addO o l 1 = o ∧ addLc o l 1 = l := ⟨(addO_no h).symm, (addLc_no h).symm⟩

set_option maxHeartbeats 1000000 in
theorem walk_out (a0 : Int) (w : World) (b0 : 0 ≤ a0 ∧ a0 ≤ 4294967295) (h : a0 ≤ 4294967284 ∨ a0 = 4294967285) (hv : validB a0 0 = false) (ho : 0 ≤ offOf a0) (ho2 : offOf a0 ≤ 4294967295) :
    Calls Try.prog 3 #[.int .u32 a0, .int .u32 0] w fun e w' => e = .returned (.bool true) ∧ Below w.heap.size w w' := by
  obtain ⟨p1, p2⟩ := plain_out a0 0 (Or.inr rfl)
  have P1 := Lib.hid p1
  have P2 := Lib.hid p2
  clear p1 p2
  have hz : (0 : Int) ≤ 0 ∧ (0 : Int) ≤ 4294967295 := by omega
  rcases h with h | rfl
  · go_enter Try.func3, Try.ntmps3
    go_wp2_with (first | (go_at_call 7; go_in) | (go_at_call 6; go_in))
    refine (extEnd_any _ (w.heap.size + 1 + 1) _ 0 _ b0 hz ?_ ?_ ?_ ?_ ?_).mono ?_
    iterate 5 (simp [go_sem])
    rintro e w1 ⟨rfl, hb1⟩
    rw [P1.out, P2.out]
    obtain ⟨S, hS, hSn, hSB, hSc⟩ := cells_after w _ _ hb1 [(⟨w.heap.size + 1, 0, none⟩, .int .u32 a0), (⟨w.heap.size + 1, 1, none⟩, .int .u32 0)] (by go_grown) (by simp [go_sem])
    have HC := Lib.hid (show ∀ W, S W → W.cell? ⟨w.heap.size + 1, 0, none⟩ = some (.int .u32 a0) ∧ W.cell? ⟨w.heap.size + 1, 1, none⟩ = some (.int .u32 0) ∧ w.heap.size + 1 < W.heap.size from fun W h => ⟨(hSc W h (⟨w.heap.size + 1, 0, none⟩, .int .u32 a0) (by simp)).1, (hSc W h (⟨w.heap.size + 1, 1, none⟩, .int .u32 0) (by simp)).1, (hSc W h (⟨w.heap.size + 1, 0, none⟩, .int .u32 a0) (by simp)).2⟩)
    have HN := Lib.hid hSn
    have HB := Lib.hid hSB
    clear hSn hSB hSc hb1 
    obtain ⟨c0, c1, z0⟩ := HC.out _ hS
    go_wp2_with fail
    refine (offset_any _ _ _ b0).mono ?_
    rintro e w2 ⟨rfl, hb2⟩
    have hBw := HB.out _ hS
    clear HC HN HB
    obtain ⟨S, hS, hSn, hSB, hSc⟩ := cells_after w _ _ hb2 [(⟨w.heap.size + 1, 0, none⟩, .int .u32 a0), (⟨w.heap.size + 1, 1, none⟩, .int .u32 0), (⟨w1.heap.size, 0, none⟩, .int .u32 a0), (⟨w1.heap.size, 1, none⟩, .int .u32 0)] (by go_grown) (by intro p hp; simp only [List.mem_cons, List.not_mem_nil, or_false] at hp; rcases hp with rfl | rfl | rfl | rfl <;> exact ⟨by first | assumption | (simp [go_sem]; done) | (refine cell_alloc ?_; assumption) | (refine cell_alloc (cell_alloc ?_); assumption) | (refine cell_alloc (cell_alloc (cell_alloc ?_)); assumption), by first | (simp; omega) | (simp; done)⟩)
    have HC := Lib.hid (show ∀ W, S W → W.cell? ⟨w.heap.size + 1, 0, none⟩ = some (.int .u32 a0) ∧ W.cell? ⟨w.heap.size + 1, 1, none⟩ = some (.int .u32 0) ∧ W.cell? ⟨w1.heap.size, 0, none⟩ = some (.int .u32 a0) ∧ W.cell? ⟨w1.heap.size, 1, none⟩ = some (.int .u32 0) ∧ w.heap.size + 1 < W.heap.size ∧ w1.heap.size < W.heap.size from fun W h => ⟨(hSc W h (⟨w.heap.size + 1, 0, none⟩, .int .u32 a0) (by simp)).1, (hSc W h (⟨w.heap.size + 1, 1, none⟩, .int .u32 0) (by simp)).1, (hSc W h (⟨w1.heap.size, 0, none⟩, .int .u32 a0) (by simp)).1, (hSc W h (⟨w1.heap.size, 1, none⟩, .int .u32 0) (by simp)).1, (hSc W h (⟨w.heap.size + 1, 0, none⟩, .int .u32 a0) (by simp)).2, (hSc W h (⟨w1.heap.size, 0, none⟩, .int .u32 a0) (by simp)).2⟩)
    have HN := Lib.hid hSn
    have HB := Lib.hid hSB
    clear hSn hSB hSc hb2 c0 c1 z0
    obtain ⟨c0, c1, c2, c3, z0, z1⟩ := HC.out _ hS
    go_wp2_with fail
    refine (offset_any _ _ _ b0).mono ?_
    rintro e wN ⟨rfl, hbN⟩
    have hS := HN.out _ _ hS hbN
    clear hbN c0 c1 c2 c3 z0 z1
    obtain ⟨c0, c1, c2, c3, z0, z1⟩ := HC.out _ hS
    have v1 := IntWalk.u64_in (offOf a0 + 1) (by omega)
    have d1 : decide (offOf a0 ≤ offOf a0 + 1) = true := by simp; omega
    go_wp2_with fail
    have hS9 := HN.out _ _ hS (below_drew _)
    clear c0 c1 c2 c3 z0 z1
    obtain ⟨c0, c1, c2, c3, z0, z1⟩ := HC.out _ hS9
    refine wp_region_noPanic ?_
    refine wp_region_held_drew (S := (fun W9 => S W9 ∧ W9.cell? ⟨w.heap.size + 1, 0, none⟩ = some (.int .u32 a0) ∧ W9.cell? ⟨w.heap.size + 1, 1, none⟩ = some (.int .u32 0) ∧ W9.cell? ⟨w1.heap.size, 0, none⟩ = some (.int .u32 a0) ∧ W9.cell? ⟨w1.heap.size, 1, none⟩ = some (.int .u32 0))) (by kernel_rfl) ⟨hS9, c0, c1, c2, c3⟩ (fun hHeld => ?_)
    clear hS
    refine wpAnyH_take (i := 0) (oi := ?_) (v := ?_) ?_ (by kernel_rfl) (by kernel_rfl) (by kernel_rfl) (fun _ _ _ h => h) (Or.inl ⟨?_, ?_⟩) (by assumption) ?_
    rotate_left 2
    · (simp only [List.getElem?_toArray, List.getElem?_cons_zero]; try rfl)
    · rfl
    · (intro W9 hSw; (try dsimp only at hSw); first | (go_simp; done) | (go_simp; with_reducible rfl))
    simp only [Act.put, List.setIfInBounds_toArray, List.set_cons_zero, List.set_cons_succ]
    refine wpAnyH_take (i := 2) (oi := ?_) (v := ?_) ?_ (by kernel_rfl) (by kernel_rfl) (by kernel_rfl) (fun _ _ _ h => h) (Or.inl ⟨?_, ?_⟩) (by assumption) ?_
    rotate_left 2
    · (simp only [List.getElem?_toArray, List.getElem?_cons_succ, List.getElem?_cons_zero]; try rfl)
    · rfl
    · (intro W9 hSw; (try dsimp only at hSw); first | (go_simp; done) | (go_simp; with_reducible rfl))
    simp only [Act.put, List.setIfInBounds_toArray, List.set_cons_zero, List.set_cons_succ]
    refine wpAnyH_ready (rs := [1]) (by kernel_rfl) (by simp) ?_
    refine AllReadyH.cons (o := ?_) ?_ (fun K hK => ?_) AllReadyH.nil
    rotate_left 1
    · (simp only [List.getElem?_toArray, List.getElem?_cons_succ, List.getElem?_cons_zero]; try rfl)
    go_simp
    refine (line_any _ 0 _ hz).mono ?_
    rintro e wN ⟨rfl, hbN⟩
    have hS := HN.out _ _ (And.left (by assumption)) hbN
    clear hbN
    obtain ⟨c0, c1, c2, c3, z0, z1⟩ := HC.out _ hS
    go_wp2_with fail
    refine hK.out _ _ ⟨hS, c0, c1, c2, c3⟩ (fun hHeld => ?_)
    clear hK K
    refine wpAnyH_ready (rs := [3]) (by kernel_rfl) (by simp) ?_
    refine AllReadyH.cons (o := ?_) ?_ (fun K hK => ?_) AllReadyH.nil
    rotate_left 1
    · (simp only [List.getElem?_toArray, List.getElem?_cons_succ, List.getElem?_cons_zero]; try rfl)
    go_simp
    refine (line_any _ 0 _ hz).mono ?_
    rintro e wN ⟨rfl, hbN⟩
    have hS := HN.out _ _ (And.left (by assumption)) hbN
    clear hbN
    obtain ⟨c0, c1, c2, c3, z0, z1⟩ := HC.out _ hS
    go_wp2_with fail
    refine hK.out _ _ ⟨hS, c0, c1, c2, c3⟩ (fun hHeld => ?_)
    clear hK K
    refine wpAnyH_take (i := 4) (oi := ?_) (v := ?_) ?_ (by kernel_rfl) (by kernel_rfl) (by kernel_rfl) (fun _ _ _ h => h) (Or.inl ⟨?_, ?_⟩) (by assumption) ?_
    rotate_left 2
    · (simp only [List.getElem?_toArray, List.getElem?_cons_succ, List.getElem?_cons_zero]; try rfl)
    · rfl
    · (intro W9 hSw; (try dsimp only at hSw); first | (go_simp; done) | (go_simp; with_reducible rfl))
    simp only [Act.put, List.setIfInBounds_toArray, List.set_cons_zero, List.set_cons_succ]
    refine wpAnyH_take (i := 5) (oi := ?_) (v := ?_) ?_ (by kernel_rfl) (by kernel_rfl) (by kernel_rfl) (fun _ _ _ h => h) (Or.inl ⟨?_, ?_⟩) (by assumption) ?_
    rotate_left 2
    · (simp only [List.getElem?_toArray, List.getElem?_cons_succ, List.getElem?_cons_zero]; try rfl)
    · rfl
    · (intro W9 hSw; (try dsimp only at hSw); first | (go_simp; done) | (go_simp; with_reducible rfl))
    simp only [Act.put, List.setIfInBounds_toArray, List.set_cons_zero, List.set_cons_succ]
    refine wpAnyH_take (i := 6) (oi := ?_) (v := ?_) ?_ (by kernel_rfl) (by kernel_rfl) (by kernel_rfl) (fun _ _ _ h => h) (Or.inl ⟨?_, ?_⟩) (by assumption) ?_
    rotate_left 2
    · (simp only [List.getElem?_toArray, List.getElem?_cons_succ, List.getElem?_cons_zero]; try rfl)
    · rfl
    · (intro W9 hSw; (try dsimp only at hSw); first | (go_simp; done) | (go_simp; with_reducible rfl))
    simp only [Act.put, List.setIfInBounds_toArray, List.set_cons_zero, List.set_cons_succ]
    refine wpAnyH_take (i := 7) (oi := ?_) (v := ?_) ?_ (by kernel_rfl) (by kernel_rfl) (by kernel_rfl) (fun _ _ _ h => h) (Or.inl ⟨?_, ?_⟩) (by assumption) ?_
    rotate_left 2
    · (simp only [List.getElem?_toArray, List.getElem?_cons_succ, List.getElem?_cons_zero]; try rfl)
    · rfl
    · (intro W9 hSw; (try dsimp only at hSw); first | (go_simp; done) | (go_simp; with_reducible rfl))
    simp only [Act.put, List.setIfInBounds_toArray, List.set_cons_zero, List.set_cons_succ]
    refine wpAnyH_take (i := 8) (oi := ?_) (v := ?_) ?_ (by kernel_rfl) (by kernel_rfl) (by kernel_rfl) (fun _ _ _ h => h) (Or.inl ⟨?_, ?_⟩) (by assumption) ?_
    rotate_left 2
    · (simp only [List.getElem?_toArray, List.getElem?_cons_succ, List.getElem?_cons_zero]; try rfl)
    · rfl
    · (intro W9 hSw; (try dsimp only at hSw); first | (go_simp; done) | (go_simp; with_reducible rfl))
    simp only [Act.put, List.setIfInBounds_toArray, List.set_cons_zero, List.set_cons_succ]
    refine wpAnyH_take (i := 9) (oi := ?_) (v := ?_) ?_ (by kernel_rfl) (by kernel_rfl) (by kernel_rfl) (fun _ _ _ h => h) (Or.inl ⟨?_, ?_⟩) (by assumption) ?_
    rotate_left 2
    · (simp only [List.getElem?_toArray, List.getElem?_cons_succ, List.getElem?_cons_zero]; try rfl)
    · rfl
    · (intro W9 hSw; (try dsimp only at hSw); first | (go_simp; done) | (go_simp; with_reducible rfl))
    simp only [Act.put, List.setIfInBounds_toArray, List.set_cons_zero, List.set_cons_succ]
    refine wpAnyH_take (i := 10) (oi := ?_) (v := ?_) ?_ (by kernel_rfl) (by kernel_rfl) (by kernel_rfl) (fun _ _ _ h => h) (Or.inl ⟨?_, ?_⟩) (by assumption) ?_
    rotate_left 2
    · (simp only [List.getElem?_toArray, List.getElem?_cons_succ, List.getElem?_cons_zero]; try rfl)
    · rfl
    · (intro W9 hSw; (try dsimp only at hSw); first | (go_simp; done) | (go_simp; with_reducible rfl))
    simp only [Act.put, List.setIfInBounds_toArray, List.set_cons_zero, List.set_cons_succ]
    refine wpAnyH_take (i := 11) (oi := ?_) (v := ?_) ?_ (by kernel_rfl) (by kernel_rfl) (by kernel_rfl) (fun _ _ _ h => h) (Or.inl ⟨?_, ?_⟩) (by assumption) ?_
    rotate_left 2
    · (simp only [List.getElem?_toArray, List.getElem?_cons_succ, List.getElem?_cons_zero]; try rfl)
    · rfl
    · (intro W9 hSw; (try dsimp only at hSw); first | (go_simp; done) | (go_simp; with_reducible rfl))
    simp only [Act.put, List.setIfInBounds_toArray, List.set_cons_zero, List.set_cons_succ]
    refine wpAnyH_take (i := 12) (oi := ?_) (v := ?_) ?_ (by kernel_rfl) (by kernel_rfl) (by kernel_rfl) (fun _ _ _ h => h) (Or.inl ⟨?_, ?_⟩) (by assumption) ?_
    rotate_left 2
    · (simp only [List.getElem?_toArray, List.getElem?_cons_succ, List.getElem?_cons_zero]; try rfl)
    · rfl
    · (intro W9 hSw; (try dsimp only at hSw); first | (go_simp; done) | (go_simp; with_reducible rfl))
    simp only [Act.put, List.setIfInBounds_toArray, List.set_cons_zero, List.set_cons_succ]
    refine wpAnyH_take (i := 13) (oi := ?_) (v := ?_) ?_ (by kernel_rfl) (by kernel_rfl) (by kernel_rfl) (fun _ _ _ h => h) (Or.inl ⟨?_, ?_⟩) (by assumption) ?_
    rotate_left 2
    · (simp only [List.getElem?_toArray, List.getElem?_cons_succ, List.getElem?_cons_zero]; try rfl)
    · rfl
    · (intro W9 hSw; (try dsimp only at hSw); first | (go_simp; done) | (go_simp; with_reducible rfl))
    simp only [Act.put, List.setIfInBounds_toArray, List.set_cons_zero, List.set_cons_succ]
    refine wpAnyH_take (i := 14) (oi := ?_) (v := ?_) ?_ (by kernel_rfl) (by kernel_rfl) (by kernel_rfl) (fun _ _ _ h => h) (Or.inl ⟨?_, ?_⟩) (by assumption) ?_
    rotate_left 2
    · (simp only [List.getElem?_toArray, List.getElem?_cons_succ, List.getElem?_cons_zero]; try rfl)
    · rfl
    · (intro W9 hSw; (try dsimp only at hSw); first | (go_simp; done) | (go_simp; with_reducible rfl))
    simp only [Act.put, List.setIfInBounds_toArray, List.set_cons_zero, List.set_cons_succ]
    refine wpAnyH_take (i := 15) (oi := ?_) (v := ?_) ?_ (by kernel_rfl) (by kernel_rfl) (by kernel_rfl) (fun _ _ _ h => h) (Or.inl ⟨?_, ?_⟩) (by assumption) ?_
    rotate_left 2
    · (simp only [List.getElem?_toArray, List.getElem?_cons_succ, List.getElem?_cons_zero]; try rfl)
    · rfl
    · (intro W9 hSw; (try dsimp only at hSw); first | (go_simp; done) | (go_simp; with_reducible rfl))
    simp only [Act.put, List.setIfInBounds_toArray, List.set_cons_zero, List.set_cons_succ]
    refine wpAnyH_take (i := 16) (oi := ?_) (v := ?_) ?_ (by kernel_rfl) (by kernel_rfl) (by kernel_rfl) (fun _ _ _ h => h) (Or.inl ⟨?_, ?_⟩) (by assumption) ?_
    rotate_left 2
    · (simp only [List.getElem?_toArray, List.getElem?_cons_succ, List.getElem?_cons_zero]; try rfl)
    · rfl
    · (intro W9 hSw; (try dsimp only at hSw); first | (go_simp; done) | (go_simp; with_reducible rfl))
    simp only [Act.put, List.setIfInBounds_toArray, List.set_cons_zero, List.set_cons_succ]
    refine wpAnyH_take (i := 17) (oi := ?_) (v := ?_) ?_ (by kernel_rfl) (by kernel_rfl) (by kernel_rfl) (fun _ _ _ h => h) (Or.inl ⟨?_, ?_⟩) (by assumption) ?_
    rotate_left 2
    · (simp only [List.getElem?_toArray, List.getElem?_cons_succ, List.getElem?_cons_zero]; try rfl)
    · rfl
    · (intro W9 hSw; (try dsimp only at hSw); first | (go_simp; done) | (go_simp; with_reducible rfl))
    simp only [Act.put, List.setIfInBounds_toArray, List.set_cons_zero, List.set_cons_succ]
    refine wpAnyH_ready (rs := [18]) (by kernel_rfl) (by simp) ?_
    refine AllReadyH.cons (o := ?_) ?_ (fun K hK => ?_) AllReadyH.nil
    rotate_left 1
    · (simp only [List.getElem?_toArray, List.getElem?_cons_succ, List.getElem?_cons_zero]; try rfl)
    go_simp
    refine (isValid_any _ 0 _ b0 hz).mono ?_
    rintro e wN ⟨rfl, hbN⟩
    have hS := HN.out _ _ (And.left (by assumption)) hbN
    clear hbN
    obtain ⟨c0, c1, c2, c3, z0, z1⟩ := HC.out _ hS
    go_wp2_with fail
    refine hK.out _ _ ⟨hS, c0, c1, c2, c3⟩ (fun hHeld => ?_)
    clear hK K
    refine wpAnyH_take (i := 19) (oi := ?_) (v := ?_) ?_ (by kernel_rfl) (by kernel_rfl) (by kernel_rfl) (fun _ _ _ h => h) (Or.inl ⟨?_, ?_⟩) (by assumption) ?_
    rotate_left 2
    · (simp only [List.getElem?_toArray, List.getElem?_cons_succ, List.getElem?_cons_zero]; try rfl)
    · rfl
    · (intro W9 hSw; (try dsimp only at hSw); first | (go_simp; done) | (go_simp; with_reducible rfl))
    simp only [Act.put, List.setIfInBounds_toArray, List.set_cons_zero, List.set_cons_succ]
    refine wpAnyH_take (i := 20) (oi := ?_) (v := ?_) ?_ (by kernel_rfl) (by kernel_rfl) (by kernel_rfl) (fun _ _ _ h => h) (Or.inl ⟨?_, ?_⟩) (by assumption) ?_
    rotate_left 2
    · (simp only [List.getElem?_toArray, List.getElem?_cons_succ, List.getElem?_cons_zero]; try rfl)
    · rfl
    · (intro W9 hSw; (try dsimp only at hSw); first | (go_simp; done) | (go_simp; with_reducible rfl))
    simp only [Act.put, List.setIfInBounds_toArray, List.set_cons_zero, List.set_cons_succ]
    refine wpAnyH_take (i := 21) (oi := ?_) (v := undef) ?_ (by kernel_rfl) (by kernel_rfl) (by kernel_rfl) (fun _ _ _ h => h) (Or.inr ⟨?_, rfl⟩) (by assumption) ?_
    rotate_left 1
    · (simp only [List.getElem?_toArray, List.getElem?_cons_succ, List.getElem?_cons_zero]; try rfl)
    · rfl
    simp only [Act.put, List.setIfInBounds_toArray, List.set_cons_zero, List.set_cons_succ]
    refine wpAnyH_ready (rs := [22]) (by kernel_rfl) (by simp) ?_
    refine AllReadyH.cons (o := ?_) ?_ (fun K hK => ?_) AllReadyH.nil
    rotate_left 1
    · (simp only [List.getElem?_toArray, List.getElem?_cons_succ, List.getElem?_cons_zero]; try rfl)
    go_simp
    refine hK.out _ _ ⟨hS, c0, c1, c2, c3⟩ (fun hHeld => ?_)
    clear hK K
    refine wpAnyH_take (i := 23) (oi := ?_) (v := ?_) ?_ (by kernel_rfl) (by kernel_rfl) (by kernel_rfl) (fun _ _ _ h => h) (Or.inl ⟨?_, ?_⟩) (by assumption) ?_
    rotate_left 2
    · (simp only [List.getElem?_toArray, List.getElem?_cons_succ, List.getElem?_cons_zero]; try rfl)
    · rfl
    · (intro W9 hSw; (try dsimp only at hSw); first | (go_simp; done) | (go_simp; with_reducible rfl))
    simp only [Act.put, List.setIfInBounds_toArray, List.set_cons_zero, List.set_cons_succ]
    refine wpAnyH_take (i := 24) (oi := ?_) (v := ?_) ?_ (by kernel_rfl) (by kernel_rfl) (by kernel_rfl) (fun _ _ _ h => h) (Or.inl ⟨?_, ?_⟩) (by assumption) ?_
    rotate_left 2
    · (simp only [List.getElem?_toArray, List.getElem?_cons_succ, List.getElem?_cons_zero]; try rfl)
    · rfl
    · (intro W9 hSw; (try dsimp only at hSw); first | (go_simp; done) | (go_simp; with_reducible rfl))
    simp only [Act.put, List.setIfInBounds_toArray, List.set_cons_zero, List.set_cons_succ]
    refine wpAnyH_take (i := 25) (oi := ?_) (v := ?_) ?_ (by kernel_rfl) (by kernel_rfl) (by kernel_rfl) (fun _ _ _ h => h) (Or.inl ⟨?_, ?_⟩) (by assumption) ?_
    rotate_left 2
    · (simp only [List.getElem?_toArray, List.getElem?_cons_succ, List.getElem?_cons_zero]; try rfl)
    · rfl
    · (intro W9 hSw; (try dsimp only at hSw); first | (go_simp; done) | (go_simp; with_reducible rfl))
    simp only [Act.put, List.setIfInBounds_toArray, List.set_cons_zero, List.set_cons_succ]
    refine wpAnyH_done (by kernel_rfl) ?_ _
    refine NoPanic.normal ?_
    go_wp2_with fail
    go_ret
    exact ⟨rfl, HB.out _ hS⟩
  · go_enter Try.func3, Try.ntmps3
    go_wp2_with (first | (go_at_call 7; go_in) | (go_at_call 6; go_in))
    refine (extEnd_any _ (w.heap.size + 1 + 1) _ 0 _ b0 hz ?_ ?_ ?_ ?_ ?_).mono ?_
    iterate 5 (simp [go_sem])
    rintro e w1 ⟨rfl, hb1⟩
    rw [P1.out, P2.out]
    obtain ⟨S, hS, hSn, hSB, hSc⟩ := cells_after w _ _ hb1 [(⟨w.heap.size + 1, 0, none⟩, .int .u32 4294967285), (⟨w.heap.size + 1, 1, none⟩, .int .u32 0)] (by go_grown) (by simp [go_sem])
    have HC := Lib.hid (show ∀ W, S W → W.cell? ⟨w.heap.size + 1, 0, none⟩ = some (.int .u32 4294967285) ∧ W.cell? ⟨w.heap.size + 1, 1, none⟩ = some (.int .u32 0) ∧ w.heap.size + 1 < W.heap.size from fun W h => ⟨(hSc W h (⟨w.heap.size + 1, 0, none⟩, .int .u32 4294967285) (by simp)).1, (hSc W h (⟨w.heap.size + 1, 1, none⟩, .int .u32 0) (by simp)).1, (hSc W h (⟨w.heap.size + 1, 0, none⟩, .int .u32 4294967285) (by simp)).2⟩)
    have HN := Lib.hid hSn
    have HB := Lib.hid hSB
    clear hSn hSB hSc hb1 
    obtain ⟨c0, c1, z0⟩ := HC.out _ hS
    go_wp2_with fail
    refine (offset_any _ _ _ b0).mono ?_
    rintro e w2 ⟨rfl, hb2⟩
    have hBw := HB.out _ hS
    clear HC HN HB
    obtain ⟨S, hS, hSn, hSB, hSc⟩ := cells_after w _ _ hb2 [(⟨w.heap.size + 1, 0, none⟩, .int .u32 4294967285), (⟨w.heap.size + 1, 1, none⟩, .int .u32 0), (⟨w1.heap.size, 0, none⟩, .int .u32 4294967285), (⟨w1.heap.size, 1, none⟩, .int .u32 0)] (by go_grown) (by intro p hp; simp only [List.mem_cons, List.not_mem_nil, or_false] at hp; rcases hp with rfl | rfl | rfl | rfl <;> exact ⟨by first | assumption | (simp [go_sem]; done) | (refine cell_alloc ?_; assumption) | (refine cell_alloc (cell_alloc ?_); assumption) | (refine cell_alloc (cell_alloc (cell_alloc ?_)); assumption), by first | (simp; omega) | (simp; done)⟩)
    have HC := Lib.hid (show ∀ W, S W → W.cell? ⟨w.heap.size + 1, 0, none⟩ = some (.int .u32 4294967285) ∧ W.cell? ⟨w.heap.size + 1, 1, none⟩ = some (.int .u32 0) ∧ W.cell? ⟨w1.heap.size, 0, none⟩ = some (.int .u32 4294967285) ∧ W.cell? ⟨w1.heap.size, 1, none⟩ = some (.int .u32 0) ∧ w.heap.size + 1 < W.heap.size ∧ w1.heap.size < W.heap.size from fun W h => ⟨(hSc W h (⟨w.heap.size + 1, 0, none⟩, .int .u32 4294967285) (by simp)).1, (hSc W h (⟨w.heap.size + 1, 1, none⟩, .int .u32 0) (by simp)).1, (hSc W h (⟨w1.heap.size, 0, none⟩, .int .u32 4294967285) (by simp)).1, (hSc W h (⟨w1.heap.size, 1, none⟩, .int .u32 0) (by simp)).1, (hSc W h (⟨w.heap.size + 1, 0, none⟩, .int .u32 4294967285) (by simp)).2, (hSc W h (⟨w1.heap.size, 0, none⟩, .int .u32 4294967285) (by simp)).2⟩)
    have HN := Lib.hid hSn
    have HB := Lib.hid hSB
    clear hSn hSB hSc hb2 c0 c1 z0
    obtain ⟨c0, c1, c2, c3, z0, z1⟩ := HC.out _ hS
    go_wp2_with fail
    refine (offset_any _ _ _ b0).mono ?_
    rintro e wN ⟨rfl, hbN⟩
    have hS := HN.out _ _ hS hbN
    clear hbN c0 c1 c2 c3 z0 z1
    obtain ⟨c0, c1, c2, c3, z0, z1⟩ := HC.out _ hS
    have v1 := IntWalk.u64_in (offOf 4294967285 + 1) (by omega)
    have d1 : decide (offOf 4294967285 ≤ offOf 4294967285 + 1) = true := by simp; omega
    go_wp2_with fail
    have hS9 := HN.out _ _ hS (below_drew _)
    clear c0 c1 c2 c3 z0 z1
    obtain ⟨c0, c1, c2, c3, z0, z1⟩ := HC.out _ hS9
    refine wp_region_noPanic ?_
    refine wp_region_held_drew (S := (fun W9 => S W9 ∧ W9.cell? ⟨w.heap.size + 1, 0, none⟩ = some (.int .u32 4294967285) ∧ W9.cell? ⟨w.heap.size + 1, 1, none⟩ = some (.int .u32 0) ∧ W9.cell? ⟨w1.heap.size, 0, none⟩ = some (.int .u32 4294967285) ∧ W9.cell? ⟨w1.heap.size, 1, none⟩ = some (.int .u32 0))) (by kernel_rfl) ⟨hS9, c0, c1, c2, c3⟩ (fun hHeld => ?_)
    clear hS
    refine wpAnyH_take (i := 0) (oi := ?_) (v := ?_) ?_ (by kernel_rfl) (by kernel_rfl) (by kernel_rfl) (fun _ _ _ h => h) (Or.inl ⟨?_, ?_⟩) (by assumption) ?_
    rotate_left 2
    · (simp only [List.getElem?_toArray, List.getElem?_cons_zero]; try rfl)
    · rfl
    · (intro W9 hSw; (try dsimp only at hSw); first | (go_simp; done) | (go_simp; with_reducible rfl))
    simp only [Act.put, List.setIfInBounds_toArray, List.set_cons_zero, List.set_cons_succ]
    refine wpAnyH_take (i := 2) (oi := ?_) (v := ?_) ?_ (by kernel_rfl) (by kernel_rfl) (by kernel_rfl) (fun _ _ _ h => h) (Or.inl ⟨?_, ?_⟩) (by assumption) ?_
    rotate_left 2
    · (simp only [List.getElem?_toArray, List.getElem?_cons_succ, List.getElem?_cons_zero]; try rfl)
    · rfl
    · (intro W9 hSw; (try dsimp only at hSw); first | (go_simp; done) | (go_simp; with_reducible rfl))
    simp only [Act.put, List.setIfInBounds_toArray, List.set_cons_zero, List.set_cons_succ]
    refine wpAnyH_ready (rs := [1]) (by kernel_rfl) (by simp) ?_
    refine AllReadyH.cons (o := ?_) ?_ (fun K hK => ?_) AllReadyH.nil
    rotate_left 1
    · (simp only [List.getElem?_toArray, List.getElem?_cons_succ, List.getElem?_cons_zero]; try rfl)
    go_simp
    refine (line_any _ 0 _ hz).mono ?_
    rintro e wN ⟨rfl, hbN⟩
    have hS := HN.out _ _ (And.left (by assumption)) hbN
    clear hbN
    obtain ⟨c0, c1, c2, c3, z0, z1⟩ := HC.out _ hS
    go_wp2_with fail
    refine hK.out _ _ ⟨hS, c0, c1, c2, c3⟩ (fun hHeld => ?_)
    clear hK K
    refine wpAnyH_ready (rs := [3]) (by kernel_rfl) (by simp) ?_
    refine AllReadyH.cons (o := ?_) ?_ (fun K hK => ?_) AllReadyH.nil
    rotate_left 1
    · (simp only [List.getElem?_toArray, List.getElem?_cons_succ, List.getElem?_cons_zero]; try rfl)
    go_simp
    refine (line_any _ 0 _ hz).mono ?_
    rintro e wN ⟨rfl, hbN⟩
    have hS := HN.out _ _ (And.left (by assumption)) hbN
    clear hbN
    obtain ⟨c0, c1, c2, c3, z0, z1⟩ := HC.out _ hS
    go_wp2_with fail
    refine hK.out _ _ ⟨hS, c0, c1, c2, c3⟩ (fun hHeld => ?_)
    clear hK K
    refine wpAnyH_take (i := 4) (oi := ?_) (v := ?_) ?_ (by kernel_rfl) (by kernel_rfl) (by kernel_rfl) (fun _ _ _ h => h) (Or.inl ⟨?_, ?_⟩) (by assumption) ?_
    rotate_left 2
    · (simp only [List.getElem?_toArray, List.getElem?_cons_succ, List.getElem?_cons_zero]; try rfl)
    · rfl
    · (intro W9 hSw; (try dsimp only at hSw); first | (go_simp; done) | (go_simp; with_reducible rfl))
    simp only [Act.put, List.setIfInBounds_toArray, List.set_cons_zero, List.set_cons_succ]
    refine wpAnyH_take (i := 5) (oi := ?_) (v := ?_) ?_ (by kernel_rfl) (by kernel_rfl) (by kernel_rfl) (fun _ _ _ h => h) (Or.inl ⟨?_, ?_⟩) (by assumption) ?_
    rotate_left 2
    · (simp only [List.getElem?_toArray, List.getElem?_cons_succ, List.getElem?_cons_zero]; try rfl)
    · rfl
    · (intro W9 hSw; (try dsimp only at hSw); first | (go_simp; done) | (go_simp; with_reducible rfl))
    simp only [Act.put, List.setIfInBounds_toArray, List.set_cons_zero, List.set_cons_succ]
    refine wpAnyH_take (i := 6) (oi := ?_) (v := ?_) ?_ (by kernel_rfl) (by kernel_rfl) (by kernel_rfl) (fun _ _ _ h => h) (Or.inl ⟨?_, ?_⟩) (by assumption) ?_
    rotate_left 2
    · (simp only [List.getElem?_toArray, List.getElem?_cons_succ, List.getElem?_cons_zero]; try rfl)
    · rfl
    · (intro W9 hSw; (try dsimp only at hSw); first | (go_simp; done) | (go_simp; with_reducible rfl))
    simp only [Act.put, List.setIfInBounds_toArray, List.set_cons_zero, List.set_cons_succ]
    refine wpAnyH_take (i := 7) (oi := ?_) (v := ?_) ?_ (by kernel_rfl) (by kernel_rfl) (by kernel_rfl) (fun _ _ _ h => h) (Or.inl ⟨?_, ?_⟩) (by assumption) ?_
    rotate_left 2
    · (simp only [List.getElem?_toArray, List.getElem?_cons_succ, List.getElem?_cons_zero]; try rfl)
    · rfl
    · (intro W9 hSw; (try dsimp only at hSw); first | (go_simp; done) | (go_simp; with_reducible rfl))
    simp only [Act.put, List.setIfInBounds_toArray, List.set_cons_zero, List.set_cons_succ]
    refine wpAnyH_take (i := 8) (oi := ?_) (v := ?_) ?_ (by kernel_rfl) (by kernel_rfl) (by kernel_rfl) (fun _ _ _ h => h) (Or.inl ⟨?_, ?_⟩) (by assumption) ?_
    rotate_left 2
    · (simp only [List.getElem?_toArray, List.getElem?_cons_succ, List.getElem?_cons_zero]; try rfl)
    · rfl
    · (intro W9 hSw; (try dsimp only at hSw); first | (go_simp; done) | (go_simp; with_reducible rfl))
    simp only [Act.put, List.setIfInBounds_toArray, List.set_cons_zero, List.set_cons_succ]
    refine wpAnyH_take (i := 9) (oi := ?_) (v := ?_) ?_ (by kernel_rfl) (by kernel_rfl) (by kernel_rfl) (fun _ _ _ h => h) (Or.inl ⟨?_, ?_⟩) (by assumption) ?_
    rotate_left 2
    · (simp only [List.getElem?_toArray, List.getElem?_cons_succ, List.getElem?_cons_zero]; try rfl)
    · rfl
    · (intro W9 hSw; (try dsimp only at hSw); first | (go_simp; done) | (go_simp; with_reducible rfl))
    simp only [Act.put, List.setIfInBounds_toArray, List.set_cons_zero, List.set_cons_succ]
    refine wpAnyH_take (i := 10) (oi := ?_) (v := ?_) ?_ (by kernel_rfl) (by kernel_rfl) (by kernel_rfl) (fun _ _ _ h => h) (Or.inl ⟨?_, ?_⟩) (by assumption) ?_
    rotate_left 2
    · (simp only [List.getElem?_toArray, List.getElem?_cons_succ, List.getElem?_cons_zero]; try rfl)
    · rfl
    · (intro W9 hSw; (try dsimp only at hSw); first | (go_simp; done) | (go_simp; with_reducible rfl))
    simp only [Act.put, List.setIfInBounds_toArray, List.set_cons_zero, List.set_cons_succ]
    refine wpAnyH_take (i := 11) (oi := ?_) (v := ?_) ?_ (by kernel_rfl) (by kernel_rfl) (by kernel_rfl) (fun _ _ _ h => h) (Or.inl ⟨?_, ?_⟩) (by assumption) ?_
    rotate_left 2
    · (simp only [List.getElem?_toArray, List.getElem?_cons_succ, List.getElem?_cons_zero]; try rfl)
    · rfl
    · (intro W9 hSw; (try dsimp only at hSw); first | (go_simp; done) | (go_simp; with_reducible rfl))
    simp only [Act.put, List.setIfInBounds_toArray, List.set_cons_zero, List.set_cons_succ]
    refine wpAnyH_take (i := 12) (oi := ?_) (v := ?_) ?_ (by kernel_rfl) (by kernel_rfl) (by kernel_rfl) (fun _ _ _ h => h) (Or.inl ⟨?_, ?_⟩) (by assumption) ?_
    rotate_left 2
    · (simp only [List.getElem?_toArray, List.getElem?_cons_succ, List.getElem?_cons_zero]; try rfl)
    · rfl
    · (intro W9 hSw; (try dsimp only at hSw); first | (go_simp; done) | (go_simp; with_reducible rfl))
    simp only [Act.put, List.setIfInBounds_toArray, List.set_cons_zero, List.set_cons_succ]
    refine wpAnyH_take (i := 13) (oi := ?_) (v := ?_) ?_ (by kernel_rfl) (by kernel_rfl) (by kernel_rfl) (fun _ _ _ h => h) (Or.inl ⟨?_, ?_⟩) (by assumption) ?_
    rotate_left 2
    · (simp only [List.getElem?_toArray, List.getElem?_cons_succ, List.getElem?_cons_zero]; try rfl)
    · rfl
    · (intro W9 hSw; (try dsimp only at hSw); first | (go_simp; done) | (go_simp; with_reducible rfl))
    simp only [Act.put, List.setIfInBounds_toArray, List.set_cons_zero, List.set_cons_succ]
    refine wpAnyH_take (i := 14) (oi := ?_) (v := ?_) ?_ (by kernel_rfl) (by kernel_rfl) (by kernel_rfl) (fun _ _ _ h => h) (Or.inl ⟨?_, ?_⟩) (by assumption) ?_
    rotate_left 2
    · (simp only [List.getElem?_toArray, List.getElem?_cons_succ, List.getElem?_cons_zero]; try rfl)
    · rfl
    · (intro W9 hSw; (try dsimp only at hSw); first | (go_simp; done) | (go_simp; with_reducible rfl))
    simp only [Act.put, List.setIfInBounds_toArray, List.set_cons_zero, List.set_cons_succ]
    refine wpAnyH_take (i := 15) (oi := ?_) (v := ?_) ?_ (by kernel_rfl) (by kernel_rfl) (by kernel_rfl) (fun _ _ _ h => h) (Or.inl ⟨?_, ?_⟩) (by assumption) ?_
    rotate_left 2
    · (simp only [List.getElem?_toArray, List.getElem?_cons_succ, List.getElem?_cons_zero]; try rfl)
    · rfl
    · (intro W9 hSw; (try dsimp only at hSw); first | (go_simp; done) | (go_simp; with_reducible rfl))
    simp only [Act.put, List.setIfInBounds_toArray, List.set_cons_zero, List.set_cons_succ]
    refine wpAnyH_take (i := 16) (oi := ?_) (v := ?_) ?_ (by kernel_rfl) (by kernel_rfl) (by kernel_rfl) (fun _ _ _ h => h) (Or.inl ⟨?_, ?_⟩) (by assumption) ?_
    rotate_left 2
    · (simp only [List.getElem?_toArray, List.getElem?_cons_succ, List.getElem?_cons_zero]; try rfl)
    · rfl
    · (intro W9 hSw; (try dsimp only at hSw); first | (go_simp; done) | (go_simp; with_reducible rfl))
    simp only [Act.put, List.setIfInBounds_toArray, List.set_cons_zero, List.set_cons_succ]
    refine wpAnyH_take (i := 17) (oi := ?_) (v := ?_) ?_ (by kernel_rfl) (by kernel_rfl) (by kernel_rfl) (fun _ _ _ h => h) (Or.inl ⟨?_, ?_⟩) (by assumption) ?_
    rotate_left 2
    · (simp only [List.getElem?_toArray, List.getElem?_cons_succ, List.getElem?_cons_zero]; try rfl)
    · rfl
    · (intro W9 hSw; (try dsimp only at hSw); first | (go_simp; done) | (go_simp; with_reducible rfl))
    simp only [Act.put, List.setIfInBounds_toArray, List.set_cons_zero, List.set_cons_succ]
    refine wpAnyH_ready (rs := [18]) (by kernel_rfl) (by simp) ?_
    refine AllReadyH.cons (o := ?_) ?_ (fun K hK => ?_) AllReadyH.nil
    rotate_left 1
    · (simp only [List.getElem?_toArray, List.getElem?_cons_succ, List.getElem?_cons_zero]; try rfl)
    go_simp
    refine (isValid_any _ 0 _ b0 hz).mono ?_
    rintro e wN ⟨rfl, hbN⟩
    have hS := HN.out _ _ (And.left (by assumption)) hbN
    clear hbN
    obtain ⟨c0, c1, c2, c3, z0, z1⟩ := HC.out _ hS
    go_wp2_with fail
    refine hK.out _ _ ⟨hS, c0, c1, c2, c3⟩ (fun hHeld => ?_)
    clear hK K
    refine wpAnyH_take (i := 19) (oi := ?_) (v := ?_) ?_ (by kernel_rfl) (by kernel_rfl) (by kernel_rfl) (fun _ _ _ h => h) (Or.inl ⟨?_, ?_⟩) (by assumption) ?_
    rotate_left 2
    · (simp only [List.getElem?_toArray, List.getElem?_cons_succ, List.getElem?_cons_zero]; try rfl)
    · rfl
    · (intro W9 hSw; (try dsimp only at hSw); first | (go_simp; done) | (go_simp; with_reducible rfl))
    simp only [Act.put, List.setIfInBounds_toArray, List.set_cons_zero, List.set_cons_succ]
    refine wpAnyH_take (i := 20) (oi := ?_) (v := ?_) ?_ (by kernel_rfl) (by kernel_rfl) (by kernel_rfl) (fun _ _ _ h => h) (Or.inl ⟨?_, ?_⟩) (by assumption) ?_
    rotate_left 2
    · (simp only [List.getElem?_toArray, List.getElem?_cons_succ, List.getElem?_cons_zero]; try rfl)
    · rfl
    · (intro W9 hSw; (try dsimp only at hSw); first | (go_simp; done) | (go_simp; with_reducible rfl))
    simp only [Act.put, List.setIfInBounds_toArray, List.set_cons_zero, List.set_cons_succ]
    refine wpAnyH_take (i := 21) (oi := ?_) (v := undef) ?_ (by kernel_rfl) (by kernel_rfl) (by kernel_rfl) (fun _ _ _ h => h) (Or.inr ⟨?_, rfl⟩) (by assumption) ?_
    rotate_left 1
    · (simp only [List.getElem?_toArray, List.getElem?_cons_succ, List.getElem?_cons_zero]; try rfl)
    · rfl
    simp only [Act.put, List.setIfInBounds_toArray, List.set_cons_zero, List.set_cons_succ]
    refine wpAnyH_ready (rs := [22]) (by kernel_rfl) (by simp) ?_
    refine AllReadyH.cons (o := ?_) ?_ (fun K hK => ?_) AllReadyH.nil
    rotate_left 1
    · (simp only [List.getElem?_toArray, List.getElem?_cons_succ, List.getElem?_cons_zero]; try rfl)
    go_simp
    refine hK.out _ _ ⟨hS, c0, c1, c2, c3⟩ (fun hHeld => ?_)
    clear hK K
    refine wpAnyH_take (i := 23) (oi := ?_) (v := ?_) ?_ (by kernel_rfl) (by kernel_rfl) (by kernel_rfl) (fun _ _ _ h => h) (Or.inl ⟨?_, ?_⟩) (by assumption) ?_
    rotate_left 2
    · (simp only [List.getElem?_toArray, List.getElem?_cons_succ, List.getElem?_cons_zero]; try rfl)
    · rfl
    · (intro W9 hSw; (try dsimp only at hSw); first | (go_simp; done) | (go_simp; with_reducible rfl))
    simp only [Act.put, List.setIfInBounds_toArray, List.set_cons_zero, List.set_cons_succ]
    refine wpAnyH_take (i := 24) (oi := ?_) (v := ?_) ?_ (by kernel_rfl) (by kernel_rfl) (by kernel_rfl) (fun _ _ _ h => h) (Or.inl ⟨?_, ?_⟩) (by assumption) ?_
    rotate_left 2
    · (simp only [List.getElem?_toArray, List.getElem?_cons_succ, List.getElem?_cons_zero]; try rfl)
    · rfl
    · (intro W9 hSw; (try dsimp only at hSw); first | (go_simp; done) | (go_simp; with_reducible rfl))
    simp only [Act.put, List.setIfInBounds_toArray, List.set_cons_zero, List.set_cons_succ]
    refine wpAnyH_take (i := 25) (oi := ?_) (v := ?_) ?_ (by kernel_rfl) (by kernel_rfl) (by kernel_rfl) (fun _ _ _ h => h) (Or.inl ⟨?_, ?_⟩) (by assumption) ?_
    rotate_left 2
    · (simp only [List.getElem?_toArray, List.getElem?_cons_succ, List.getElem?_cons_zero]; try rfl)
    · rfl
    · (intro W9 hSw; (try dsimp only at hSw); first | (go_simp; done) | (go_simp; with_reducible rfl))
    simp only [Act.put, List.setIfInBounds_toArray, List.set_cons_zero, List.set_cons_succ]
    refine wpAnyH_done (by kernel_rfl) ?_ _
    refine NoPanic.normal ?_
    go_wp2_with fail
    go_ret
    exact ⟨rfl, HB.out _ hS⟩

set_option maxHeartbeats 1000000 in
theorem line_as (o lc r : Int) (w : World) (h : lineOf lc = r) (hl : 0 ≤ lc ∧ lc ≤ 4294967295) : Calls Try.prog 10 #[.agg #[.int .u32 o, .int .u32 lc]] w fun e w' => e = .returned (.int .u64 r) ∧ Below w.heap.size w w' := by rw [← h]; exact line_any o lc w hl
set_option maxHeartbeats 1000000 in
theorem walk_in (a0 a1 : Int) (w : World) (b0 : 0 ≤ a0 ∧ a0 ≤ 4294967295) (b1 : 0 ≤ a1 ∧ a1 ≤ 4294967295) (h : a0 ≤ 4294967284) (hn : a1 ≠ 0) :
    Calls Try.prog 3 #[.int .u32 a0, .int .u32 a1] w fun e w' => e = .returned (.bool true) ∧ Below w.heap.size w w' := by
  obtain ⟨p1, p2, p3, p4, p5, p6⟩ := plain_in a0 a1 b0.1 h hn
  have i1 := addO_in a0 a1 1 b0
  have i2 := addLc_in a0 a1 1 b1
  have hv2 : validB (addO a0 a1 1) (addLc a0 a1 1) = true ∨ validB (addO a0 a1 1) (addLc a0 a1 1) = false := by cases validB (addO a0 a1 1) (addLc a0 a1 1) <;> simp
  obtain ⟨eo, heo⟩ : ∃ eo, eo = addO a0 a1 1 := ⟨_, rfl⟩
  obtain ⟨el, hel⟩ : ∃ el, el = addLc a0 a1 1 := ⟨_, rfl⟩
  rw [← heo] at p1 p2 i1 hv2
  rw [← hel] at p3 i2 hv2
  have E1 := Lib.hid heo
  have E2 := Lib.hid hel
  have q1 : 0 ≤ offOf eo := by omega
  have q2 : offOf eo ≤ 4294967295 := by omega
  clear heo hel
  have d1 : decide (offOf a0 ≤ offOf eo) = true := by simp; omega
  have d2 : decide (offOf eo ≤ offOf a0 + 1) = true := by simp; omega
  have D := Lib.hid (And.intro d1 d2)
  have P3 := Lib.hid p3
  have hr : ((a1 : Int) == 0) = false := by simp [hn]
  clear p1 p2 p3 d1 d2
  rcases hv2 with hv | hv
  all_goals
    go_enter Try.func3, Try.ntmps3
    go_wp2_with (first | (go_at_call 7; go_in) | (go_at_call 6; go_in))
    refine (extEnd_any _ (w.heap.size + 1 + 1) _ a1 _ b0 b1 ?_ ?_ ?_ ?_ ?_).mono ?_
    iterate 5 (simp [go_sem])
    rintro e w1 ⟨rfl, hb1⟩
    rw [← E1.out, ← E2.out]
    obtain ⟨S, hS, hSn, hSB, hSc⟩ := cells_after w _ _ hb1 [(⟨w.heap.size + 1, 0, none⟩, .int .u32 a0), (⟨w.heap.size + 1, 1, none⟩, .int .u32 a1)] (by go_grown) (by simp [go_sem])
    have HC := Lib.hid (show ∀ W, S W → W.cell? ⟨w.heap.size + 1, 0, none⟩ = some (.int .u32 a0) ∧ W.cell? ⟨w.heap.size + 1, 1, none⟩ = some (.int .u32 a1) ∧ w.heap.size + 1 < W.heap.size from fun W h => ⟨(hSc W h (⟨w.heap.size + 1, 0, none⟩, .int .u32 a0) (by simp)).1, (hSc W h (⟨w.heap.size + 1, 1, none⟩, .int .u32 a1) (by simp)).1, (hSc W h (⟨w.heap.size + 1, 0, none⟩, .int .u32 a0) (by simp)).2⟩)
    have HN := Lib.hid hSn
    have HB := Lib.hid hSB
    clear hSn hSB hSc hb1 
    obtain ⟨c0, c1, z0⟩ := HC.out _ hS
    go_wp2_with fail
    refine (offset_any _ _ _ b0).mono ?_
    rintro e w2 ⟨rfl, hb2⟩
    have hBw := HB.out _ hS
    clear HC HN HB
    obtain ⟨S, hS, hSn, hSB, hSc⟩ := cells_after w _ _ hb2 [(⟨w.heap.size + 1, 0, none⟩, .int .u32 a0), (⟨w.heap.size + 1, 1, none⟩, .int .u32 a1), (⟨w1.heap.size, 0, none⟩, .int .u32 eo), (⟨w1.heap.size, 1, none⟩, .int .u32 el)] (by go_grown) (by intro p hp; simp only [List.mem_cons, List.not_mem_nil, or_false] at hp; rcases hp with rfl | rfl | rfl | rfl <;> exact ⟨by first | assumption | (simp [go_sem]; done) | (refine cell_alloc ?_; assumption) | (refine cell_alloc (cell_alloc ?_); assumption) | (refine cell_alloc (cell_alloc (cell_alloc ?_)); assumption), by first | (simp; omega) | (simp; done)⟩)
    have HC := Lib.hid (show ∀ W, S W → W.cell? ⟨w.heap.size + 1, 0, none⟩ = some (.int .u32 a0) ∧ W.cell? ⟨w.heap.size + 1, 1, none⟩ = some (.int .u32 a1) ∧ W.cell? ⟨w1.heap.size, 0, none⟩ = some (.int .u32 eo) ∧ W.cell? ⟨w1.heap.size, 1, none⟩ = some (.int .u32 el) ∧ w.heap.size + 1 < W.heap.size ∧ w1.heap.size < W.heap.size from fun W h => ⟨(hSc W h (⟨w.heap.size + 1, 0, none⟩, .int .u32 a0) (by simp)).1, (hSc W h (⟨w.heap.size + 1, 1, none⟩, .int .u32 a1) (by simp)).1, (hSc W h (⟨w1.heap.size, 0, none⟩, .int .u32 eo) (by simp)).1, (hSc W h (⟨w1.heap.size, 1, none⟩, .int .u32 el) (by simp)).1, (hSc W h (⟨w.heap.size + 1, 0, none⟩, .int .u32 a0) (by simp)).2, (hSc W h (⟨w1.heap.size, 0, none⟩, .int .u32 eo) (by simp)).2⟩)
    have HN := Lib.hid hSn
    have HB := Lib.hid hSB
    clear hSn hSB hSc hb2 c0 c1 z0
    obtain ⟨c0, c1, c2, c3, z0, z1⟩ := HC.out _ hS
    go_wp2_with fail
    refine (offset_any _ _ _ i1).mono ?_
    rintro e wN ⟨rfl, hbN⟩
    have hS := HN.out _ _ hS hbN
    clear hbN c0 c1 c2 c3 z0 z1
    obtain ⟨c0, c1, c2, c3, z0, z1⟩ := HC.out _ hS
    have v1 := IntWalk.u64_in (offOf a0 + 1) (by omega)
    obtain ⟨d1, d2⟩ := D.out
    go_wp2_with fail
    have hS9 := HN.out _ _ hS (below_drew _)
    clear c0 c1 c2 c3 z0 z1
    obtain ⟨c0, c1, c2, c3, z0, z1⟩ := HC.out _ hS9
    refine wp_region_noPanic ?_
    refine wp_region_held_drew (S := (fun W9 => S W9 ∧ W9.cell? ⟨w.heap.size + 1, 0, none⟩ = some (.int .u32 a0) ∧ W9.cell? ⟨w.heap.size + 1, 1, none⟩ = some (.int .u32 a1) ∧ W9.cell? ⟨w1.heap.size, 0, none⟩ = some (.int .u32 eo) ∧ W9.cell? ⟨w1.heap.size, 1, none⟩ = some (.int .u32 el))) (by kernel_rfl) ⟨hS9, c0, c1, c2, c3⟩ (fun hHeld => ?_)
    clear hS
  · refine wpAnyH_take (i := 0) (oi := ?_) (v := ?_) ?_ (by kernel_rfl) (by kernel_rfl) (by kernel_rfl) (fun _ _ _ h => h) (Or.inl ⟨?_, ?_⟩) (by assumption) ?_
    rotate_left 2
    · (simp only [List.getElem?_toArray, List.getElem?_cons_zero]; try rfl)
    · rfl
    · (intro W9 hSw; (try dsimp only at hSw); first | (go_simp; done) | (go_simp; with_reducible rfl))
    simp only [Act.put, List.setIfInBounds_toArray, List.set_cons_zero, List.set_cons_succ]
    refine wpAnyH_take (i := 2) (oi := ?_) (v := ?_) ?_ (by kernel_rfl) (by kernel_rfl) (by kernel_rfl) (fun _ _ _ h => h) (Or.inl ⟨?_, ?_⟩) (by assumption) ?_
    rotate_left 2
    · (simp only [List.getElem?_toArray, List.getElem?_cons_succ, List.getElem?_cons_zero]; try rfl)
    · rfl
    · (intro W9 hSw; (try dsimp only at hSw); first | (go_simp; done) | (go_simp; with_reducible rfl))
    simp only [Act.put, List.setIfInBounds_toArray, List.set_cons_zero, List.set_cons_succ]
    refine wpAnyH_ready (rs := [1]) (by kernel_rfl) (by simp) ?_
    refine AllReadyH.cons (o := ?_) ?_ (fun K hK => ?_) AllReadyH.nil
    rotate_left 1
    · (simp only [List.getElem?_toArray, List.getElem?_cons_succ, List.getElem?_cons_zero]; try rfl)
    go_simp
    refine (line_as eo el (lineOf a1) _ P3.out i2).mono ?_
    rintro e wN ⟨rfl, hbN⟩
    have hS := HN.out _ _ (And.left (by assumption)) hbN
    clear hbN
    obtain ⟨c0, c1, c2, c3, z0, z1⟩ := HC.out _ hS
    go_wp2_with fail
    refine hK.out _ _ ⟨hS, c0, c1, c2, c3⟩ (fun hHeld => ?_)
    clear hK K
    refine wpAnyH_ready (rs := [3]) (by kernel_rfl) (by simp) ?_
    refine AllReadyH.cons (o := ?_) ?_ (fun K hK => ?_) AllReadyH.nil
    rotate_left 1
    · (simp only [List.getElem?_toArray, List.getElem?_cons_succ, List.getElem?_cons_zero]; try rfl)
    go_simp
    refine (line_any _ a1 _ b1).mono ?_
    rintro e wN ⟨rfl, hbN⟩
    have hS := HN.out _ _ (And.left (by assumption)) hbN
    clear hbN
    obtain ⟨c0, c1, c2, c3, z0, z1⟩ := HC.out _ hS
    go_wp2_with fail
    refine hK.out _ _ ⟨hS, c0, c1, c2, c3⟩ (fun hHeld => ?_)
    clear hK K
    refine wpAnyH_take (i := 4) (oi := ?_) (v := ?_) ?_ (by kernel_rfl) (by kernel_rfl) (by kernel_rfl) (fun _ _ _ h => h) (Or.inl ⟨?_, ?_⟩) (by assumption) ?_
    rotate_left 2
    · (simp only [List.getElem?_toArray, List.getElem?_cons_succ, List.getElem?_cons_zero]; try rfl)
    · rfl
    · (intro W9 hSw; (try dsimp only at hSw); first | (go_simp; done) | (go_simp; with_reducible rfl))
    simp only [Act.put, List.setIfInBounds_toArray, List.set_cons_zero, List.set_cons_succ]
    refine wpAnyH_take (i := 5) (oi := ?_) (v := ?_) ?_ (by kernel_rfl) (by kernel_rfl) (by kernel_rfl) (fun _ _ _ h => h) (Or.inl ⟨?_, ?_⟩) (by assumption) ?_
    rotate_left 2
    · (simp only [List.getElem?_toArray, List.getElem?_cons_succ, List.getElem?_cons_zero]; try rfl)
    · rfl
    · (intro W9 hSw; (try dsimp only at hSw); first | (go_simp; done) | (go_simp; with_reducible rfl))
    simp only [Act.put, List.setIfInBounds_toArray, List.set_cons_zero, List.set_cons_succ]
    refine wpAnyH_take (i := 6) (oi := ?_) (v := ?_) ?_ (by kernel_rfl) (by kernel_rfl) (by kernel_rfl) (fun _ _ _ h => h) (Or.inl ⟨?_, ?_⟩) (by assumption) ?_
    rotate_left 2
    · (simp only [List.getElem?_toArray, List.getElem?_cons_succ, List.getElem?_cons_zero]; try rfl)
    · rfl
    · (intro W9 hSw; (try dsimp only at hSw); first | (go_simp; done) | (go_simp; with_reducible rfl))
    simp only [Act.put, List.setIfInBounds_toArray, List.set_cons_zero, List.set_cons_succ]
    refine wpAnyH_take (i := 7) (oi := ?_) (v := ?_) ?_ (by kernel_rfl) (by kernel_rfl) (by kernel_rfl) (fun _ _ _ h => h) (Or.inl ⟨?_, ?_⟩) (by assumption) ?_
    rotate_left 2
    · (simp only [List.getElem?_toArray, List.getElem?_cons_succ, List.getElem?_cons_zero]; try rfl)
    · rfl
    · (intro W9 hSw; (try dsimp only at hSw); first | (go_simp; done) | (go_simp; with_reducible rfl))
    simp only [Act.put, List.setIfInBounds_toArray, List.set_cons_zero, List.set_cons_succ]
    refine wpAnyH_take (i := 8) (oi := ?_) (v := ?_) ?_ (by kernel_rfl) (by kernel_rfl) (by kernel_rfl) (fun _ _ _ h => h) (Or.inl ⟨?_, ?_⟩) (by assumption) ?_
    rotate_left 2
    · (simp only [List.getElem?_toArray, List.getElem?_cons_succ, List.getElem?_cons_zero]; try rfl)
    · rfl
    · (intro W9 hSw; (try dsimp only at hSw); first | (go_simp; done) | (go_simp; with_reducible rfl))
    simp only [Act.put, List.setIfInBounds_toArray, List.set_cons_zero, List.set_cons_succ]
    refine wpAnyH_take (i := 9) (oi := ?_) (v := ?_) ?_ (by kernel_rfl) (by kernel_rfl) (by kernel_rfl) (fun _ _ _ h => h) (Or.inl ⟨?_, ?_⟩) (by assumption) ?_
    rotate_left 2
    · (simp only [List.getElem?_toArray, List.getElem?_cons_succ, List.getElem?_cons_zero]; try rfl)
    · rfl
    · (intro W9 hSw; (try dsimp only at hSw); first | (go_simp; done) | (go_simp; with_reducible rfl))
    simp only [Act.put, List.setIfInBounds_toArray, List.set_cons_zero, List.set_cons_succ]
    refine wpAnyH_take (i := 10) (oi := ?_) (v := ?_) ?_ (by kernel_rfl) (by kernel_rfl) (by kernel_rfl) (fun _ _ _ h => h) (Or.inl ⟨?_, ?_⟩) (by assumption) ?_
    rotate_left 2
    · (simp only [List.getElem?_toArray, List.getElem?_cons_succ, List.getElem?_cons_zero]; try rfl)
    · rfl
    · (intro W9 hSw; (try dsimp only at hSw); first | (go_simp; done) | (go_simp; with_reducible rfl))
    simp only [Act.put, List.setIfInBounds_toArray, List.set_cons_zero, List.set_cons_succ]
    refine wpAnyH_take (i := 11) (oi := ?_) (v := ?_) ?_ (by kernel_rfl) (by kernel_rfl) (by kernel_rfl) (fun _ _ _ h => h) (Or.inl ⟨?_, ?_⟩) (by assumption) ?_
    rotate_left 2
    · (simp only [List.getElem?_toArray, List.getElem?_cons_succ, List.getElem?_cons_zero]; try rfl)
    · rfl
    · (intro W9 hSw; (try dsimp only at hSw); first | (go_simp; done) | (go_simp; with_reducible rfl))
    simp only [Act.put, List.setIfInBounds_toArray, List.set_cons_zero, List.set_cons_succ]
    refine wpAnyH_take (i := 12) (oi := ?_) (v := ?_) ?_ (by kernel_rfl) (by kernel_rfl) (by kernel_rfl) (fun _ _ _ h => h) (Or.inl ⟨?_, ?_⟩) (by assumption) ?_
    rotate_left 2
    · (simp only [List.getElem?_toArray, List.getElem?_cons_succ, List.getElem?_cons_zero]; try rfl)
    · rfl
    · (intro W9 hSw; (try dsimp only at hSw); first | (go_simp; done) | (go_simp; with_reducible rfl))
    simp only [Act.put, List.setIfInBounds_toArray, List.set_cons_zero, List.set_cons_succ]
    refine wpAnyH_take (i := 13) (oi := ?_) (v := ?_) ?_ (by kernel_rfl) (by kernel_rfl) (by kernel_rfl) (fun _ _ _ h => h) (Or.inl ⟨?_, ?_⟩) (by assumption) ?_
    rotate_left 2
    · (simp only [List.getElem?_toArray, List.getElem?_cons_succ, List.getElem?_cons_zero]; try rfl)
    · rfl
    · (intro W9 hSw; (try dsimp only at hSw); first | (go_simp; done) | (go_simp; with_reducible rfl))
    simp only [Act.put, List.setIfInBounds_toArray, List.set_cons_zero, List.set_cons_succ]
    refine wpAnyH_take (i := 14) (oi := ?_) (v := ?_) ?_ (by kernel_rfl) (by kernel_rfl) (by kernel_rfl) (fun _ _ _ h => h) (Or.inl ⟨?_, ?_⟩) (by assumption) ?_
    rotate_left 2
    · (simp only [List.getElem?_toArray, List.getElem?_cons_succ, List.getElem?_cons_zero]; try rfl)
    · rfl
    · (intro W9 hSw; (try dsimp only at hSw); first | (go_simp; done) | (go_simp; with_reducible rfl))
    simp only [Act.put, List.setIfInBounds_toArray, List.set_cons_zero, List.set_cons_succ]
    refine wpAnyH_take (i := 15) (oi := ?_) (v := ?_) ?_ (by kernel_rfl) (by kernel_rfl) (by kernel_rfl) (fun _ _ _ h => h) (Or.inl ⟨?_, ?_⟩) (by assumption) ?_
    rotate_left 2
    · (simp only [List.getElem?_toArray, List.getElem?_cons_succ, List.getElem?_cons_zero]; try rfl)
    · rfl
    · (intro W9 hSw; (try dsimp only at hSw); first | (go_simp; done) | (go_simp; with_reducible rfl))
    simp only [Act.put, List.setIfInBounds_toArray, List.set_cons_zero, List.set_cons_succ]
    refine wpAnyH_take (i := 16) (oi := ?_) (v := ?_) ?_ (by kernel_rfl) (by kernel_rfl) (by kernel_rfl) (fun _ _ _ h => h) (Or.inl ⟨?_, ?_⟩) (by assumption) ?_
    rotate_left 2
    · (simp only [List.getElem?_toArray, List.getElem?_cons_succ, List.getElem?_cons_zero]; try rfl)
    · rfl
    · (intro W9 hSw; (try dsimp only at hSw); first | (go_simp; done) | (go_simp; with_reducible rfl))
    simp only [Act.put, List.setIfInBounds_toArray, List.set_cons_zero, List.set_cons_succ]
    refine wpAnyH_take (i := 17) (oi := ?_) (v := ?_) ?_ (by kernel_rfl) (by kernel_rfl) (by kernel_rfl) (fun _ _ _ h => h) (Or.inl ⟨?_, ?_⟩) (by assumption) ?_
    rotate_left 2
    · (simp only [List.getElem?_toArray, List.getElem?_cons_succ, List.getElem?_cons_zero]; try rfl)
    · rfl
    · (intro W9 hSw; (try dsimp only at hSw); first | (go_simp; done) | (go_simp; with_reducible rfl))
    simp only [Act.put, List.setIfInBounds_toArray, List.set_cons_zero, List.set_cons_succ]
    refine wpAnyH_ready (rs := [18]) (by kernel_rfl) (by simp) ?_
    refine AllReadyH.cons (o := ?_) ?_ (fun K hK => ?_) AllReadyH.nil
    rotate_left 1
    · (simp only [List.getElem?_toArray, List.getElem?_cons_succ, List.getElem?_cons_zero]; try rfl)
    go_simp
    refine (isValid_any _ el _ i1 i2).mono ?_
    rintro e wN ⟨rfl, hbN⟩
    have hS := HN.out _ _ (And.left (by assumption)) hbN
    clear hbN
    obtain ⟨c0, c1, c2, c3, z0, z1⟩ := HC.out _ hS
    go_wp2_with fail
    refine hK.out _ _ ⟨hS, c0, c1, c2, c3⟩ (fun hHeld => ?_)
    clear hK K
    refine wpAnyH_take (i := 19) (oi := ?_) (v := ?_) ?_ (by kernel_rfl) (by kernel_rfl) (by kernel_rfl) (fun _ _ _ h => h) (Or.inl ⟨?_, ?_⟩) (by assumption) ?_
    rotate_left 2
    · (simp only [List.getElem?_toArray, List.getElem?_cons_succ, List.getElem?_cons_zero]; try rfl)
    · rfl
    · (intro W9 hSw; (try dsimp only at hSw); first | (go_simp; done) | (go_simp; with_reducible rfl))
    simp only [Act.put, List.setIfInBounds_toArray, List.set_cons_zero, List.set_cons_succ]
    refine wpAnyH_take (i := 20) (oi := ?_) (v := ?_) ?_ (by kernel_rfl) (by kernel_rfl) (by kernel_rfl) (fun _ _ _ h => h) (Or.inl ⟨?_, ?_⟩) (by assumption) ?_
    rotate_left 2
    · (simp only [List.getElem?_toArray, List.getElem?_cons_succ, List.getElem?_cons_zero]; try rfl)
    · rfl
    · (intro W9 hSw; (try dsimp only at hSw); first | (go_simp; done) | (go_simp; with_reducible rfl))
    simp only [Act.put, List.setIfInBounds_toArray, List.set_cons_zero, List.set_cons_succ]
    refine wpAnyH_take (i := 21) (oi := ?_) (v := ?_) ?_ (by kernel_rfl) (by kernel_rfl) (by kernel_rfl) (fun _ _ _ h => h) (Or.inl ⟨?_, ?_⟩) (by assumption) ?_
    rotate_left 2
    · (simp only [List.getElem?_toArray, List.getElem?_cons_succ, List.getElem?_cons_zero]; try rfl)
    · rfl
    · (intro W9 hSw; (try dsimp only at hSw); first | (go_simp; done) | (go_simp; with_reducible rfl))
    simp only [Act.put, List.setIfInBounds_toArray, List.set_cons_zero, List.set_cons_succ]
    refine wpAnyH_ready (rs := [22]) (by kernel_rfl) (by simp) ?_
    refine AllReadyH.cons (o := ?_) ?_ (fun K hK => ?_) AllReadyH.nil
    rotate_left 1
    · (simp only [List.getElem?_toArray, List.getElem?_cons_succ, List.getElem?_cons_zero]; try rfl)
    go_simp
    refine (isValid_any _ a1 _ b0 b1).mono ?_
    rintro e wN ⟨rfl, hbN⟩
    have hS := HN.out _ _ (And.left (by assumption)) hbN
    clear hbN
    obtain ⟨c0, c1, c2, c3, z0, z1⟩ := HC.out _ hS
    go_wp2_with fail
    refine hK.out _ _ ⟨hS, c0, c1, c2, c3⟩ (fun hHeld => ?_)
    clear hK K
    refine wpAnyH_take (i := 23) (oi := ?_) (v := ?_) ?_ (by kernel_rfl) (by kernel_rfl) (by kernel_rfl) (fun _ _ _ h => h) (Or.inl ⟨?_, ?_⟩) (by assumption) ?_
    rotate_left 2
    · (simp only [List.getElem?_toArray, List.getElem?_cons_succ, List.getElem?_cons_zero]; try rfl)
    · rfl
    · (intro W9 hSw; (try dsimp only at hSw); first | (go_simp; done) | (go_simp; with_reducible rfl))
    simp only [Act.put, List.setIfInBounds_toArray, List.set_cons_zero, List.set_cons_succ]
    refine wpAnyH_take (i := 24) (oi := ?_) (v := ?_) ?_ (by kernel_rfl) (by kernel_rfl) (by kernel_rfl) (fun _ _ _ h => h) (Or.inl ⟨?_, ?_⟩) (by assumption) ?_
    rotate_left 2
    · (simp only [List.getElem?_toArray, List.getElem?_cons_succ, List.getElem?_cons_zero]; try rfl)
    · rfl
    · (intro W9 hSw; (try dsimp only at hSw); first | (go_simp; done) | (go_simp; with_reducible rfl))
    simp only [Act.put, List.setIfInBounds_toArray, List.set_cons_zero, List.set_cons_succ]
    refine wpAnyH_take (i := 25) (oi := ?_) (v := ?_) ?_ (by kernel_rfl) (by kernel_rfl) (by kernel_rfl) (fun _ _ _ h => h) (Or.inl ⟨?_, ?_⟩) (by assumption) ?_
    rotate_left 2
    · (simp only [List.getElem?_toArray, List.getElem?_cons_succ, List.getElem?_cons_zero]; try rfl)
    · rfl
    · (intro W9 hSw; (try dsimp only at hSw); first | (go_simp; done) | (go_simp; with_reducible rfl))
    simp only [Act.put, List.setIfInBounds_toArray, List.set_cons_zero, List.set_cons_succ]
    refine wpAnyH_done (by kernel_rfl) ?_ _
    refine NoPanic.normal ?_
    go_wp2_with fail
    go_ret
    exact ⟨rfl, HB.out _ hS⟩
  · refine wpAnyH_take (i := 0) (oi := ?_) (v := ?_) ?_ (by kernel_rfl) (by kernel_rfl) (by kernel_rfl) (fun _ _ _ h => h) (Or.inl ⟨?_, ?_⟩) (by assumption) ?_
    rotate_left 2
    · (simp only [List.getElem?_toArray, List.getElem?_cons_zero]; try rfl)
    · rfl
    · (intro W9 hSw; (try dsimp only at hSw); first | (go_simp; done) | (go_simp; with_reducible rfl))
    simp only [Act.put, List.setIfInBounds_toArray, List.set_cons_zero, List.set_cons_succ]
    refine wpAnyH_take (i := 2) (oi := ?_) (v := ?_) ?_ (by kernel_rfl) (by kernel_rfl) (by kernel_rfl) (fun _ _ _ h => h) (Or.inl ⟨?_, ?_⟩) (by assumption) ?_
    rotate_left 2
    · (simp only [List.getElem?_toArray, List.getElem?_cons_succ, List.getElem?_cons_zero]; try rfl)
    · rfl
    · (intro W9 hSw; (try dsimp only at hSw); first | (go_simp; done) | (go_simp; with_reducible rfl))
    simp only [Act.put, List.setIfInBounds_toArray, List.set_cons_zero, List.set_cons_succ]
    refine wpAnyH_ready (rs := [1]) (by kernel_rfl) (by simp) ?_
    refine AllReadyH.cons (o := ?_) ?_ (fun K hK => ?_) AllReadyH.nil
    rotate_left 1
    · (simp only [List.getElem?_toArray, List.getElem?_cons_succ, List.getElem?_cons_zero]; try rfl)
    go_simp
    refine (line_as eo el (lineOf a1) _ P3.out i2).mono ?_
    rintro e wN ⟨rfl, hbN⟩
    have hS := HN.out _ _ (And.left (by assumption)) hbN
    clear hbN
    obtain ⟨c0, c1, c2, c3, z0, z1⟩ := HC.out _ hS
    go_wp2_with fail
    refine hK.out _ _ ⟨hS, c0, c1, c2, c3⟩ (fun hHeld => ?_)
    clear hK K
    refine wpAnyH_ready (rs := [3]) (by kernel_rfl) (by simp) ?_
    refine AllReadyH.cons (o := ?_) ?_ (fun K hK => ?_) AllReadyH.nil
    rotate_left 1
    · (simp only [List.getElem?_toArray, List.getElem?_cons_succ, List.getElem?_cons_zero]; try rfl)
    go_simp
    refine (line_any _ a1 _ b1).mono ?_
    rintro e wN ⟨rfl, hbN⟩
    have hS := HN.out _ _ (And.left (by assumption)) hbN
    clear hbN
    obtain ⟨c0, c1, c2, c3, z0, z1⟩ := HC.out _ hS
    go_wp2_with fail
    refine hK.out _ _ ⟨hS, c0, c1, c2, c3⟩ (fun hHeld => ?_)
    clear hK K
    refine wpAnyH_take (i := 4) (oi := ?_) (v := ?_) ?_ (by kernel_rfl) (by kernel_rfl) (by kernel_rfl) (fun _ _ _ h => h) (Or.inl ⟨?_, ?_⟩) (by assumption) ?_
    rotate_left 2
    · (simp only [List.getElem?_toArray, List.getElem?_cons_succ, List.getElem?_cons_zero]; try rfl)
    · rfl
    · (intro W9 hSw; (try dsimp only at hSw); first | (go_simp; done) | (go_simp; with_reducible rfl))
    simp only [Act.put, List.setIfInBounds_toArray, List.set_cons_zero, List.set_cons_succ]
    refine wpAnyH_take (i := 5) (oi := ?_) (v := ?_) ?_ (by kernel_rfl) (by kernel_rfl) (by kernel_rfl) (fun _ _ _ h => h) (Or.inl ⟨?_, ?_⟩) (by assumption) ?_
    rotate_left 2
    · (simp only [List.getElem?_toArray, List.getElem?_cons_succ, List.getElem?_cons_zero]; try rfl)
    · rfl
    · (intro W9 hSw; (try dsimp only at hSw); first | (go_simp; done) | (go_simp; with_reducible rfl))
    simp only [Act.put, List.setIfInBounds_toArray, List.set_cons_zero, List.set_cons_succ]
    refine wpAnyH_take (i := 6) (oi := ?_) (v := ?_) ?_ (by kernel_rfl) (by kernel_rfl) (by kernel_rfl) (fun _ _ _ h => h) (Or.inl ⟨?_, ?_⟩) (by assumption) ?_
    rotate_left 2
    · (simp only [List.getElem?_toArray, List.getElem?_cons_succ, List.getElem?_cons_zero]; try rfl)
    · rfl
    · (intro W9 hSw; (try dsimp only at hSw); first | (go_simp; done) | (go_simp; with_reducible rfl))
    simp only [Act.put, List.setIfInBounds_toArray, List.set_cons_zero, List.set_cons_succ]
    refine wpAnyH_take (i := 7) (oi := ?_) (v := ?_) ?_ (by kernel_rfl) (by kernel_rfl) (by kernel_rfl) (fun _ _ _ h => h) (Or.inl ⟨?_, ?_⟩) (by assumption) ?_
    rotate_left 2
    · (simp only [List.getElem?_toArray, List.getElem?_cons_succ, List.getElem?_cons_zero]; try rfl)
    · rfl
    · (intro W9 hSw; (try dsimp only at hSw); first | (go_simp; done) | (go_simp; with_reducible rfl))
    simp only [Act.put, List.setIfInBounds_toArray, List.set_cons_zero, List.set_cons_succ]
    refine wpAnyH_take (i := 8) (oi := ?_) (v := ?_) ?_ (by kernel_rfl) (by kernel_rfl) (by kernel_rfl) (fun _ _ _ h => h) (Or.inl ⟨?_, ?_⟩) (by assumption) ?_
    rotate_left 2
    · (simp only [List.getElem?_toArray, List.getElem?_cons_succ, List.getElem?_cons_zero]; try rfl)
    · rfl
    · (intro W9 hSw; (try dsimp only at hSw); first | (go_simp; done) | (go_simp; with_reducible rfl))
    simp only [Act.put, List.setIfInBounds_toArray, List.set_cons_zero, List.set_cons_succ]
    refine wpAnyH_take (i := 9) (oi := ?_) (v := ?_) ?_ (by kernel_rfl) (by kernel_rfl) (by kernel_rfl) (fun _ _ _ h => h) (Or.inl ⟨?_, ?_⟩) (by assumption) ?_
    rotate_left 2
    · (simp only [List.getElem?_toArray, List.getElem?_cons_succ, List.getElem?_cons_zero]; try rfl)
    · rfl
    · (intro W9 hSw; (try dsimp only at hSw); first | (go_simp; done) | (go_simp; with_reducible rfl))
    simp only [Act.put, List.setIfInBounds_toArray, List.set_cons_zero, List.set_cons_succ]
    refine wpAnyH_take (i := 10) (oi := ?_) (v := ?_) ?_ (by kernel_rfl) (by kernel_rfl) (by kernel_rfl) (fun _ _ _ h => h) (Or.inl ⟨?_, ?_⟩) (by assumption) ?_
    rotate_left 2
    · (simp only [List.getElem?_toArray, List.getElem?_cons_succ, List.getElem?_cons_zero]; try rfl)
    · rfl
    · (intro W9 hSw; (try dsimp only at hSw); first | (go_simp; done) | (go_simp; with_reducible rfl))
    simp only [Act.put, List.setIfInBounds_toArray, List.set_cons_zero, List.set_cons_succ]
    refine wpAnyH_take (i := 11) (oi := ?_) (v := ?_) ?_ (by kernel_rfl) (by kernel_rfl) (by kernel_rfl) (fun _ _ _ h => h) (Or.inl ⟨?_, ?_⟩) (by assumption) ?_
    rotate_left 2
    · (simp only [List.getElem?_toArray, List.getElem?_cons_succ, List.getElem?_cons_zero]; try rfl)
    · rfl
    · (intro W9 hSw; (try dsimp only at hSw); first | (go_simp; done) | (go_simp; with_reducible rfl))
    simp only [Act.put, List.setIfInBounds_toArray, List.set_cons_zero, List.set_cons_succ]
    refine wpAnyH_take (i := 12) (oi := ?_) (v := ?_) ?_ (by kernel_rfl) (by kernel_rfl) (by kernel_rfl) (fun _ _ _ h => h) (Or.inl ⟨?_, ?_⟩) (by assumption) ?_
    rotate_left 2
    · (simp only [List.getElem?_toArray, List.getElem?_cons_succ, List.getElem?_cons_zero]; try rfl)
    · rfl
    · (intro W9 hSw; (try dsimp only at hSw); first | (go_simp; done) | (go_simp; with_reducible rfl))
    simp only [Act.put, List.setIfInBounds_toArray, List.set_cons_zero, List.set_cons_succ]
    refine wpAnyH_take (i := 13) (oi := ?_) (v := ?_) ?_ (by kernel_rfl) (by kernel_rfl) (by kernel_rfl) (fun _ _ _ h => h) (Or.inl ⟨?_, ?_⟩) (by assumption) ?_
    rotate_left 2
    · (simp only [List.getElem?_toArray, List.getElem?_cons_succ, List.getElem?_cons_zero]; try rfl)
    · rfl
    · (intro W9 hSw; (try dsimp only at hSw); first | (go_simp; done) | (go_simp; with_reducible rfl))
    simp only [Act.put, List.setIfInBounds_toArray, List.set_cons_zero, List.set_cons_succ]
    refine wpAnyH_take (i := 14) (oi := ?_) (v := ?_) ?_ (by kernel_rfl) (by kernel_rfl) (by kernel_rfl) (fun _ _ _ h => h) (Or.inl ⟨?_, ?_⟩) (by assumption) ?_
    rotate_left 2
    · (simp only [List.getElem?_toArray, List.getElem?_cons_succ, List.getElem?_cons_zero]; try rfl)
    · rfl
    · (intro W9 hSw; (try dsimp only at hSw); first | (go_simp; done) | (go_simp; with_reducible rfl))
    simp only [Act.put, List.setIfInBounds_toArray, List.set_cons_zero, List.set_cons_succ]
    refine wpAnyH_take (i := 15) (oi := ?_) (v := ?_) ?_ (by kernel_rfl) (by kernel_rfl) (by kernel_rfl) (fun _ _ _ h => h) (Or.inl ⟨?_, ?_⟩) (by assumption) ?_
    rotate_left 2
    · (simp only [List.getElem?_toArray, List.getElem?_cons_succ, List.getElem?_cons_zero]; try rfl)
    · rfl
    · (intro W9 hSw; (try dsimp only at hSw); first | (go_simp; done) | (go_simp; with_reducible rfl))
    simp only [Act.put, List.setIfInBounds_toArray, List.set_cons_zero, List.set_cons_succ]
    refine wpAnyH_take (i := 16) (oi := ?_) (v := ?_) ?_ (by kernel_rfl) (by kernel_rfl) (by kernel_rfl) (fun _ _ _ h => h) (Or.inl ⟨?_, ?_⟩) (by assumption) ?_
    rotate_left 2
    · (simp only [List.getElem?_toArray, List.getElem?_cons_succ, List.getElem?_cons_zero]; try rfl)
    · rfl
    · (intro W9 hSw; (try dsimp only at hSw); first | (go_simp; done) | (go_simp; with_reducible rfl))
    simp only [Act.put, List.setIfInBounds_toArray, List.set_cons_zero, List.set_cons_succ]
    refine wpAnyH_take (i := 17) (oi := ?_) (v := ?_) ?_ (by kernel_rfl) (by kernel_rfl) (by kernel_rfl) (fun _ _ _ h => h) (Or.inl ⟨?_, ?_⟩) (by assumption) ?_
    rotate_left 2
    · (simp only [List.getElem?_toArray, List.getElem?_cons_succ, List.getElem?_cons_zero]; try rfl)
    · rfl
    · (intro W9 hSw; (try dsimp only at hSw); first | (go_simp; done) | (go_simp; with_reducible rfl))
    simp only [Act.put, List.setIfInBounds_toArray, List.set_cons_zero, List.set_cons_succ]
    refine wpAnyH_ready (rs := [18]) (by kernel_rfl) (by simp) ?_
    refine AllReadyH.cons (o := ?_) ?_ (fun K hK => ?_) AllReadyH.nil
    rotate_left 1
    · (simp only [List.getElem?_toArray, List.getElem?_cons_succ, List.getElem?_cons_zero]; try rfl)
    go_simp
    refine (isValid_any _ el _ i1 i2).mono ?_
    rintro e wN ⟨rfl, hbN⟩
    have hS := HN.out _ _ (And.left (by assumption)) hbN
    clear hbN
    obtain ⟨c0, c1, c2, c3, z0, z1⟩ := HC.out _ hS
    go_wp2_with fail
    refine hK.out _ _ ⟨hS, c0, c1, c2, c3⟩ (fun hHeld => ?_)
    clear hK K
    refine wpAnyH_take (i := 19) (oi := ?_) (v := ?_) ?_ (by kernel_rfl) (by kernel_rfl) (by kernel_rfl) (fun _ _ _ h => h) (Or.inl ⟨?_, ?_⟩) (by assumption) ?_
    rotate_left 2
    · (simp only [List.getElem?_toArray, List.getElem?_cons_succ, List.getElem?_cons_zero]; try rfl)
    · rfl
    · (intro W9 hSw; (try dsimp only at hSw); first | (go_simp; done) | (go_simp; with_reducible rfl))
    simp only [Act.put, List.setIfInBounds_toArray, List.set_cons_zero, List.set_cons_succ]
    refine wpAnyH_take (i := 20) (oi := ?_) (v := ?_) ?_ (by kernel_rfl) (by kernel_rfl) (by kernel_rfl) (fun _ _ _ h => h) (Or.inl ⟨?_, ?_⟩) (by assumption) ?_
    rotate_left 2
    · (simp only [List.getElem?_toArray, List.getElem?_cons_succ, List.getElem?_cons_zero]; try rfl)
    · rfl
    · (intro W9 hSw; (try dsimp only at hSw); first | (go_simp; done) | (go_simp; with_reducible rfl))
    simp only [Act.put, List.setIfInBounds_toArray, List.set_cons_zero, List.set_cons_succ]
    refine wpAnyH_take (i := 21) (oi := ?_) (v := undef) ?_ (by kernel_rfl) (by kernel_rfl) (by kernel_rfl) (fun _ _ _ h => h) (Or.inr ⟨?_, rfl⟩) (by assumption) ?_
    rotate_left 1
    · (simp only [List.getElem?_toArray, List.getElem?_cons_succ, List.getElem?_cons_zero]; try rfl)
    · rfl
    simp only [Act.put, List.setIfInBounds_toArray, List.set_cons_zero, List.set_cons_succ]
    refine wpAnyH_ready (rs := [22]) (by kernel_rfl) (by simp) ?_
    refine AllReadyH.cons (o := ?_) ?_ (fun K hK => ?_) AllReadyH.nil
    rotate_left 1
    · (simp only [List.getElem?_toArray, List.getElem?_cons_succ, List.getElem?_cons_zero]; try rfl)
    go_simp
    refine hK.out _ _ ⟨hS, c0, c1, c2, c3⟩ (fun hHeld => ?_)
    clear hK K
    refine wpAnyH_take (i := 23) (oi := ?_) (v := ?_) ?_ (by kernel_rfl) (by kernel_rfl) (by kernel_rfl) (fun _ _ _ h => h) (Or.inl ⟨?_, ?_⟩) (by assumption) ?_
    rotate_left 2
    · (simp only [List.getElem?_toArray, List.getElem?_cons_succ, List.getElem?_cons_zero]; try rfl)
    · rfl
    · (intro W9 hSw; (try dsimp only at hSw); first | (go_simp; done) | (go_simp; with_reducible rfl))
    simp only [Act.put, List.setIfInBounds_toArray, List.set_cons_zero, List.set_cons_succ]
    refine wpAnyH_take (i := 24) (oi := ?_) (v := ?_) ?_ (by kernel_rfl) (by kernel_rfl) (by kernel_rfl) (fun _ _ _ h => h) (Or.inl ⟨?_, ?_⟩) (by assumption) ?_
    rotate_left 2
    · (simp only [List.getElem?_toArray, List.getElem?_cons_succ, List.getElem?_cons_zero]; try rfl)
    · rfl
    · (intro W9 hSw; (try dsimp only at hSw); first | (go_simp; done) | (go_simp; with_reducible rfl))
    simp only [Act.put, List.setIfInBounds_toArray, List.set_cons_zero, List.set_cons_succ]
    refine wpAnyH_take (i := 25) (oi := ?_) (v := ?_) ?_ (by kernel_rfl) (by kernel_rfl) (by kernel_rfl) (fun _ _ _ h => h) (Or.inl ⟨?_, ?_⟩) (by assumption) ?_
    rotate_left 2
    · (simp only [List.getElem?_toArray, List.getElem?_cons_succ, List.getElem?_cons_zero]; try rfl)
    · rfl
    · (intro W9 hSw; (try dsimp only at hSw); first | (go_simp; done) | (go_simp; with_reducible rfl))
    simp only [Act.put, List.setIfInBounds_toArray, List.set_cons_zero, List.set_cons_succ]
    refine wpAnyH_done (by kernel_rfl) ?_ _
    refine NoPanic.normal ?_
    go_wp2_with fail
    go_ret
    exact ⟨rfl, HB.out _ hS⟩

set_option maxHeartbeats 1000000 in
theorem walk_no (a0 a1 : Int) (w : World) (b0 : 0 ≤ a0 ∧ a0 ≤ 4294967295) (b1 : 0 ≤ a1 ∧ a1 ≤ 4294967295) (h : 4294967284 < a0) (hn : (a0 == 4294967285) = false ∨ ((a0 == 4294967285) = true ∧ (a1 == 0) = false)) :
    Calls Try.prog 3 #[.int .u32 a0, .int .u32 a1] w fun e w' => e = .returned (.bool true) ∧ Below w.heap.size w w' := by
  have hd : decide (a0 ≤ 4294967284) = false := by simp; omega
  rcases hn with hn | ⟨hm, hn⟩
  all_goals
    go_enter Try.func3, Try.ntmps3
    go_wp2_with (first | (go_at_call 7; go_in) | (go_at_call 6; go_in))
    go_ret
    exact ⟨rfl, by go_grown⟩

theorem walk (a0 : Int) (a1 : Int) (w : World) (w0 : (Lit.int .u32 a0).wf = true) (w1 : (Lit.int .u32 a1).wf = true) :
    Calls Try.prog 3 #[.int .u32 a0, .int .u32 a1] w fun e w' => e = .returned (.bool true) ∧ Below w.heap.size w w' := by
  have b0 := bounds_u32 w0
  have b1 := bounds_u32 w1
  clear w0 w1
  by_cases h : a0 ≤ 4294967284
  · by_cases hn : a1 = 0
    · subst hn
      exact walk_out a0 w b0 (.inl h) (by simp [validB]) (by unfold offOf; split <;> omega) (by unfold offOf; split <;> omega)
    · exact walk_in a0 a1 w b0 b1 h hn
  · by_cases hr : a0 = 4294967285 ∧ a1 = 0
    · obtain ⟨rfl, rfl⟩ := hr
      exact walk_out _ w b0 (.inr rfl) (by decide) (by decide) (by decide)
    · refine walk_no a0 a1 w b0 b1 (by omega) ?_
      by_cases h2 : a0 = 4294967285
      · exact .inr ⟨by simp [h2], by simp; omega⟩
      · exact .inl (by simp [h2])
end Go.Proofs.Ythmbphgpkpjopaa.fnExtGlobEndStepBound
