/- What visit does to a parameter expansion with a slice. Conditions: the cells. -/
import Derived.Test.YtgeaokgcmhkoaaaVis
namespace Go.Proofs.Ytgeaokgcmhkoaaa
open Go.RowKit
set_option linter.unusedVariables false
set_option linter.unusedSimpArgs false

set_option maxRecDepth 1000000 in
set_option maxHeartbeats 8000000 in
theorem vis_pe (sb c lo W l d sl k : Nat) (x : Value) (I : Bool) (V w : World) (hw : WordIs V W l I) (hV : Below V.heap.size V w) (hVc : V.heap.size ≤ c) (hs : Simp w sb c false) (hch : Chain 48 w lo sb (.iface 42 (.pointer (some ⟨W, 0, none⟩))) k x) (hd : sb < d) (hsl : sb < sl ∧ sl ≠ d)
    (c15 : w.cell? ⟨d, 15, none⟩ = some .nilIface) (f15 : w.frozen? ⟨d, 15, none⟩ = false) (c17 : w.cell? ⟨d, 17, none⟩ = some (.pointer (some ⟨sl, 0, none⟩))) (c0 : w.cell? ⟨sl, 0, none⟩ = some x) (f0 : w.frozen? ⟨sl, 0, none⟩ = false) (c1 : w.cell? ⟨sl, 1, none⟩ = some .nilIface) (f1 : w.frozen? ⟨sl, 1, none⟩ = false) :
    Calls Try.prog 18 #[.pointer (some ⟨sb, 0, none⟩), .iface 23 (.pointer (some ⟨d, 0, none⟩))] w (fun e w' => VPost V sb c w.heap.size W l sl 0 I (decide (0 < k) || I) e w' ∧ w'.cell? ⟨d, 15, none⟩ = some .nilIface ∧ w'.cell? ⟨d, 17, none⟩ = some (.pointer (some ⟨sl, 0, none⟩)) ∧ w'.cell? ⟨sl, 1, none⟩ = some .nilIface) := by
  have t0 := nd_ParamExp_Assign
  have t1 := nd_ParamExp_ArrayElem
  have t2 := nd_ParamExp_ParamExp
  have hcs := hs.2.2.2.2
  have zs := hs.lt
  have zd : d < w.heap.size := by have := World.block_lt_of_cell? _ _ c15; simpa using this
  have zl : sl < w.heap.size := by have := World.block_lt_of_cell? _ _ c0; simpa using this
  have HS := Lib.hid hs
  have HV := Lib.hid hV
  have HC := Lib.hid hch
  have HW := Lib.hid hw
  have hdb : d ≠ sb := by omega
  have hdc : d ≠ c := by omega
  have hlb : sl ≠ sb := by omega
  have hlc : sl ≠ c := by omega
  have hld := hsl.2
  have hdl : d ≠ sl := fun e => hld e.symm
  clear hs hV hch hw
  go_enter Try.func18, Try.ntmps18
  go_wp2_with (first | (go_at_call 20; refine (rp_no sb _ _ as_ArithmExpr_nil_ParenArithm).mono ?_; rintro e w' ⟨rfl, rfl⟩) | (go_at_call 19; refine (mi_nil sb _).mono ?_; rintro e w' ⟨rfl, rfl⟩))
  refine wp_gen (fun U => PS V w.heap.size sb c d sl false x U ∧ Chain 48 U lo sb (.iface 42 (.pointer (some ⟨W, 0, none⟩))) k x) ?_ ?_
  · refine ⟨PS.set15 ⟨HS.out, ⟨c15, c17⟩, ⟨c0, f0⟩, ⟨c1, f1⟩, HV.out, Nat.le_refl _, hVc, hd, hsl.1, hld⟩, HC.out.keep (fun b v hb hb2 h => ?_) (Nat.le_refl _) (Nat.le_refl _)⟩
    rw [World.cell?_setCell_other _ _ _ _ (fun e => by injection e with e; omega)]
    exact h
  intro U hU
  have HU := Lib.hid hU.1
  have HCU := Lib.hid hU.2
  have zd0 := zd
  have zl0 := zl
  clear hU c15 c17 c0 f0 c1 f1 f15 HS HC HV zd zl zs
  have HZ := Lib.hid (show d < w.heap.size ∧ sl < w.heap.size from ⟨zd0, zl0⟩)
  clear zd0 zl0
  have HU := Lib.hid (HU.out.below (below_drew U))
  obtain ⟨j15, j17⟩ := HU.out.2.1
  obtain ⟨j0, jf0⟩ := HU.out.2.2.1
  obtain ⟨j1, jf1⟩ := HU.out.2.2.2.1
  obtain ⟨zd, zl, zs, zc⟩ := HU.out.lt
  refine wp_region_noPanic ?_
  refine wp_region_held_drew (S := (fun U9 => U9.cell? ⟨d, 17, none⟩ = some (.pointer (some ⟨sl, 0, none⟩)))) (by kernel_rfl) j17 (fun hHeld => ?_)
  refine wpAnyH_take (i := 0) (oi := ?_) (v := ?_) ?_ (by kernel_rfl) (by kernel_rfl) (by kernel_rfl) (fun _ _ _ h => h) (Or.inl ⟨?_, ?_⟩) (by assumption) ?_
  rotate_left 2
  · (simp only [List.getElem?_toArray, List.getElem?_cons_zero]; try rfl)
  · rfl
  · (intro W9 hSw; (try dsimp only at hSw); first | (go_simp; done) | (go_simp; with_reducible rfl))
  simp only [Act.put, List.setIfInBounds_toArray, List.set_cons_zero, List.set_cons_succ]
  refine wpAnyH_take (i := 1) (oi := ?_) (v := ?_) ?_ (by kernel_rfl) (by kernel_rfl) (by kernel_rfl) (fun _ _ _ h => h) (Or.inl ⟨?_, ?_⟩) (by assumption) ?_
  rotate_left 2
  · (simp only [List.getElem?_toArray, List.getElem?_cons_succ, List.getElem?_cons_zero]; try rfl)
  · rfl
  · (intro W9 hSw; (try dsimp only at hSw); first | (go_simp; done) | (go_simp; with_reducible rfl))
  simp only [Act.put, List.setIfInBounds_toArray, List.set_cons_zero, List.set_cons_succ]
  refine wpAnyH_take (i := 2) (oi := ?_) (v := ?_) ?_ (by kernel_rfl) (by kernel_rfl) (by kernel_rfl) (fun _ _ _ h => h) (Or.inl ⟨?_, ?_⟩) (by assumption) ?_
  rotate_left 2
  · (simp only [List.getElem?_toArray, List.getElem?_cons_succ, List.getElem?_cons_zero]; try rfl)
  · rfl
  · (intro W9 hSw; (try dsimp only at hSw); first | (go_simp; done) | (go_simp; with_reducible rfl))
  simp only [Act.put, List.setIfInBounds_toArray, List.set_cons_zero, List.set_cons_succ]
  refine wpAnyH_take (i := 3) (oi := ?_) (v := ?_) ?_ (by kernel_rfl) (by kernel_rfl) (by kernel_rfl) (fun _ _ _ h => h) (Or.inl ⟨?_, ?_⟩) (by assumption) ?_
  rotate_left 2
  · (simp only [List.getElem?_toArray, List.getElem?_cons_succ, List.getElem?_cons_zero]; try rfl)
  · rfl
  · (intro W9 hSw; (try dsimp only at hSw); first | (go_simp; done) | (go_simp; with_reducible rfl))
  simp only [Act.put, List.setIfInBounds_toArray, List.set_cons_zero, List.set_cons_succ]
  refine wpAnyH_take (i := 4) (oi := ?_) (v := ?_) ?_ (by kernel_rfl) (by kernel_rfl) (by kernel_rfl) (fun _ _ _ h => h) (Or.inl ⟨?_, ?_⟩) (by assumption) ?_
  rotate_left 2
  · (simp only [List.getElem?_toArray, List.getElem?_cons_succ, List.getElem?_cons_zero]; try rfl)
  · rfl
  · (intro W9 hSw; (try dsimp only at hSw); first | (go_simp; done) | (go_simp; with_reducible rfl))
  simp only [Act.put, List.setIfInBounds_toArray, List.set_cons_zero, List.set_cons_succ]
  refine wpAnyH_take (i := 5) (oi := ?_) (v := ?_) ?_ (by kernel_rfl) (by kernel_rfl) (by kernel_rfl) (fun _ _ _ h => h) (Or.inl ⟨?_, ?_⟩) (by assumption) ?_
  rotate_left 2
  · (simp only [List.getElem?_toArray, List.getElem?_cons_succ, List.getElem?_cons_zero]; try rfl)
  · rfl
  · (intro W9 hSw; (try dsimp only at hSw); first | (go_simp; done) | (go_simp; with_reducible rfl))
  simp only [Act.put, List.setIfInBounds_toArray, List.set_cons_zero, List.set_cons_succ]
  refine wpAnyH_take (i := 6) (oi := ?_) (v := ?_) ?_ (by kernel_rfl) (by kernel_rfl) (by kernel_rfl) (fun _ _ _ h => h) (Or.inl ⟨?_, ?_⟩) (by assumption) ?_
  rotate_left 2
  · (simp only [List.getElem?_toArray, List.getElem?_cons_succ, List.getElem?_cons_zero]; try rfl)
  · rfl
  · (intro W9 hSw; (try dsimp only at hSw); first | (go_simp; done) | (go_simp; with_reducible rfl))
  simp only [Act.put, List.setIfInBounds_toArray, List.set_cons_zero, List.set_cons_succ]
  refine wpAnyH_take (i := 7) (oi := ?_) (v := ?_) ?_ (by kernel_rfl) (by kernel_rfl) (by kernel_rfl) (fun _ _ _ h => h) (Or.inl ⟨?_, ?_⟩) (by assumption) ?_
  rotate_left 2
  · (simp only [List.getElem?_toArray, List.getElem?_cons_succ, List.getElem?_cons_zero]; try rfl)
  · rfl
  · (intro W9 hSw; (try dsimp only at hSw); first | (go_simp; done) | (go_simp; with_reducible rfl))
  simp only [Act.put, List.setIfInBounds_toArray, List.set_cons_zero, List.set_cons_succ]
  refine wpAnyH_take (i := 8) (oi := ?_) (v := ?_) ?_ (by kernel_rfl) (by kernel_rfl) (by kernel_rfl) (fun _ _ _ h => h) (Or.inl ⟨?_, ?_⟩) (by assumption) ?_
  rotate_left 2
  · (simp only [List.getElem?_toArray, List.getElem?_cons_succ, List.getElem?_cons_zero]; try rfl)
  · rfl
  · (intro W9 hSw; (try dsimp only at hSw); first | (go_simp; done) | (go_simp; with_reducible rfl))
  simp only [Act.put, List.setIfInBounds_toArray, List.set_cons_zero, List.set_cons_succ]
  refine wpAnyH_take (i := 9) (oi := ?_) (v := ?_) ?_ (by kernel_rfl) (by kernel_rfl) (by kernel_rfl) (fun _ _ _ h => h) (Or.inl ⟨?_, ?_⟩) (by assumption) ?_
  rotate_left 2
  · (simp only [List.getElem?_toArray, List.getElem?_cons_succ, List.getElem?_cons_zero]; try rfl)
  · rfl
  · (intro W9 hSw; (try dsimp only at hSw); first | (go_simp; done) | (go_simp; with_reducible rfl))
  simp only [Act.put, List.setIfInBounds_toArray, List.set_cons_zero, List.set_cons_succ]
  refine wpAnyH_take (i := 10) (oi := ?_) (v := ?_) ?_ (by kernel_rfl) (by kernel_rfl) (by kernel_rfl) (fun _ _ _ h => h) (Or.inl ⟨?_, ?_⟩) (by assumption) ?_
  rotate_left 2
  · (simp only [List.getElem?_toArray, List.getElem?_cons_succ, List.getElem?_cons_zero]; try rfl)
  · rfl
  · (intro W9 hSw; (try dsimp only at hSw); first | (go_simp; done) | (go_simp; with_reducible rfl))
  simp only [Act.put, List.setIfInBounds_toArray, List.set_cons_zero, List.set_cons_succ]
  refine wpAnyH_ready (rs := [11]) (by kernel_rfl) (by simp) ?_
  refine AllReadyH.cons (o := ?_) ?_ (fun K hK => ?_) AllReadyH.nil
  rotate_left 1
  · (simp only [List.getElem?_toArray, List.getElem?_cons_succ, List.getElem?_cons_zero]; try rfl)
  go_simp
  refine hK.out _ _ j17 (fun hHeld => ?_)
  clear hK K
  refine wpAnyH_ready (rs := [12]) (by kernel_rfl) (by simp) ?_
  refine AllReadyH.cons (o := ?_) ?_ (fun K hK => ?_) AllReadyH.nil
  rotate_left 1
  · (simp only [List.getElem?_toArray, List.getElem?_cons_succ, List.getElem?_cons_zero]; try rfl)
  go_simp
  refine (rp_any sb c lo _ _ k false _ HU.out.1 (HCU.out.below (below_drew U)) (as_ArithmExpr_Word_ParenArithm _)).mono ?_
  rintro e w1 ⟨rfl, hS1, hG1⟩
  have HP := Lib.hid (HU.out.only hG1 hS1)
  clear hS1 hG1
  clear j15 j17 j0 jf0 j1 jf1 zd zl zs zc
  obtain ⟨j15, j17⟩ := HP.out.2.1
  obtain ⟨j0, jf0⟩ := HP.out.2.2.1
  obtain ⟨j1, jf1⟩ := HP.out.2.2.2.1
  obtain ⟨zd, zl, zs, zc⟩ := HP.out.lt
  refine hK.out _ _ HP.out.2.1.2 (fun hHeld => ?_)
  clear hK K
  refine wpAnyH_take (i := 13) (oi := ?_) (v := ?_) ?_ (by kernel_rfl) (by kernel_rfl) (by kernel_rfl) (fun _ _ _ h => h) (Or.inl ⟨?_, ?_⟩) (by assumption) ?_
  rotate_left 2
  · (simp only [List.getElem?_toArray, List.getElem?_cons_succ, List.getElem?_cons_zero]; try rfl)
  · rfl
  · (intro W9 hSw; (try dsimp only at hSw); first | (go_simp; done) | (go_simp; with_reducible rfl))
  simp only [Act.put, List.setIfInBounds_toArray, List.set_cons_zero, List.set_cons_succ]
  refine wpAnyH_take (i := 14) (oi := ?_) (v := ?_) ?_ (by kernel_rfl) (by kernel_rfl) (by kernel_rfl) (fun _ _ _ h => h) (Or.inl ⟨?_, ?_⟩) (by assumption) ?_
  rotate_left 2
  · (simp only [List.getElem?_toArray, List.getElem?_cons_succ, List.getElem?_cons_zero]; try rfl)
  · rfl
  · (intro W9 hSw; (try dsimp only at hSw); first | (go_simp; done) | (go_simp; with_reducible rfl))
  simp only [Act.put, List.setIfInBounds_toArray, List.set_cons_zero, List.set_cons_succ]
  refine wpAnyH_ready (rs := [15]) (by kernel_rfl) (by simp) ?_
  refine AllReadyH.cons (o := ?_) ?_ (fun K hK => ?_) AllReadyH.nil
  rotate_left 1
  · (simp only [List.getElem?_toArray, List.getElem?_cons_succ, List.getElem?_cons_zero]; try rfl)
  go_simp
  have HQ := Lib.hid (HP.out.set0 (y := .iface 42 (.pointer (some ⟨W, 0, none⟩))))
  refine hK.out _ _ HQ.out.2.1.2 (fun hHeld => ?_)
  clear hK K
  refine wpAnyH_done (by kernel_rfl) ?_ _
  refine NoPanic.normal ?_
  go_wp2_with fail
  refine wp_gen (fun U => PS V w.heap.size sb c d sl (false || decide (0 < k)) (.iface 42 (.pointer (some ⟨W, 0, none⟩))) U) HQ.out ?_
  clear HQ HP HU HCU j15 j17 j0 jf0 j1 jf1 zd zl zs zc
  intro U hU
  have HU := Lib.hid hU
  clear hU
  have HU := Lib.hid (HU.out.below (below_drew U))
  obtain ⟨j15, j17⟩ := HU.out.2.1
  obtain ⟨j0, jf0⟩ := HU.out.2.2.1
  obtain ⟨j1, jf1⟩ := HU.out.2.2.2.1
  obtain ⟨zd, zl, zs, zc⟩ := HU.out.lt
  refine wp_region_noPanic ?_
  refine wp_region_held_drew (S := (fun U9 => U9.cell? ⟨d, 17, none⟩ = some (.pointer (some ⟨sl, 0, none⟩)))) (by kernel_rfl) j17 (fun hHeld => ?_)
  refine wpAnyH_take (i := 0) (oi := ?_) (v := ?_) ?_ (by kernel_rfl) (by kernel_rfl) (by kernel_rfl) (fun _ _ _ h => h) (Or.inl ⟨?_, ?_⟩) (by assumption) ?_
  rotate_left 2
  · (simp only [List.getElem?_toArray, List.getElem?_cons_zero]; try rfl)
  · rfl
  · (intro W9 hSw; (try dsimp only at hSw); first | (go_simp; done) | (go_simp; with_reducible rfl))
  simp only [Act.put, List.setIfInBounds_toArray, List.set_cons_zero, List.set_cons_succ]
  refine wpAnyH_take (i := 1) (oi := ?_) (v := ?_) ?_ (by kernel_rfl) (by kernel_rfl) (by kernel_rfl) (fun _ _ _ h => h) (Or.inl ⟨?_, ?_⟩) (by assumption) ?_
  rotate_left 2
  · (simp only [List.getElem?_toArray, List.getElem?_cons_succ, List.getElem?_cons_zero]; try rfl)
  · rfl
  · (intro W9 hSw; (try dsimp only at hSw); first | (go_simp; done) | (go_simp; with_reducible rfl))
  simp only [Act.put, List.setIfInBounds_toArray, List.set_cons_zero, List.set_cons_succ]
  refine wpAnyH_take (i := 2) (oi := ?_) (v := ?_) ?_ (by kernel_rfl) (by kernel_rfl) (by kernel_rfl) (fun _ _ _ h => h) (Or.inl ⟨?_, ?_⟩) (by assumption) ?_
  rotate_left 2
  · (simp only [List.getElem?_toArray, List.getElem?_cons_succ, List.getElem?_cons_zero]; try rfl)
  · rfl
  · (intro W9 hSw; (try dsimp only at hSw); first | (go_simp; done) | (go_simp; with_reducible rfl))
  simp only [Act.put, List.setIfInBounds_toArray, List.set_cons_zero, List.set_cons_succ]
  refine wpAnyH_take (i := 3) (oi := ?_) (v := ?_) ?_ (by kernel_rfl) (by kernel_rfl) (by kernel_rfl) (fun _ _ _ h => h) (Or.inl ⟨?_, ?_⟩) (by assumption) ?_
  rotate_left 2
  · (simp only [List.getElem?_toArray, List.getElem?_cons_succ, List.getElem?_cons_zero]; try rfl)
  · rfl
  · (intro W9 hSw; (try dsimp only at hSw); first | (go_simp; done) | (go_simp; with_reducible rfl))
  simp only [Act.put, List.setIfInBounds_toArray, List.set_cons_zero, List.set_cons_succ]
  refine wpAnyH_take (i := 4) (oi := ?_) (v := ?_) ?_ (by kernel_rfl) (by kernel_rfl) (by kernel_rfl) (fun _ _ _ h => h) (Or.inl ⟨?_, ?_⟩) (by assumption) ?_
  rotate_left 2
  · (simp only [List.getElem?_toArray, List.getElem?_cons_succ, List.getElem?_cons_zero]; try rfl)
  · rfl
  · (intro W9 hSw; (try dsimp only at hSw); first | (go_simp; done) | (go_simp; with_reducible rfl))
  simp only [Act.put, List.setIfInBounds_toArray, List.set_cons_zero, List.set_cons_succ]
  refine wpAnyH_take (i := 5) (oi := ?_) (v := ?_) ?_ (by kernel_rfl) (by kernel_rfl) (by kernel_rfl) (fun _ _ _ h => h) (Or.inl ⟨?_, ?_⟩) (by assumption) ?_
  rotate_left 2
  · (simp only [List.getElem?_toArray, List.getElem?_cons_succ, List.getElem?_cons_zero]; try rfl)
  · rfl
  · (intro W9 hSw; (try dsimp only at hSw); first | (go_simp; done) | (go_simp; with_reducible rfl))
  simp only [Act.put, List.setIfInBounds_toArray, List.set_cons_zero, List.set_cons_succ]
  refine wpAnyH_take (i := 6) (oi := ?_) (v := ?_) ?_ (by kernel_rfl) (by kernel_rfl) (by kernel_rfl) (fun _ _ _ h => h) (Or.inl ⟨?_, ?_⟩) (by assumption) ?_
  rotate_left 2
  · (simp only [List.getElem?_toArray, List.getElem?_cons_succ, List.getElem?_cons_zero]; try rfl)
  · rfl
  · (intro W9 hSw; (try dsimp only at hSw); first | (go_simp; done) | (go_simp; with_reducible rfl))
  simp only [Act.put, List.setIfInBounds_toArray, List.set_cons_zero, List.set_cons_succ]
  refine wpAnyH_take (i := 7) (oi := ?_) (v := ?_) ?_ (by kernel_rfl) (by kernel_rfl) (by kernel_rfl) (fun _ _ _ h => h) (Or.inl ⟨?_, ?_⟩) (by assumption) ?_
  rotate_left 2
  · (simp only [List.getElem?_toArray, List.getElem?_cons_succ, List.getElem?_cons_zero]; try rfl)
  · rfl
  · (intro W9 hSw; (try dsimp only at hSw); first | (go_simp; done) | (go_simp; with_reducible rfl))
  simp only [Act.put, List.setIfInBounds_toArray, List.set_cons_zero, List.set_cons_succ]
  refine wpAnyH_take (i := 8) (oi := ?_) (v := ?_) ?_ (by kernel_rfl) (by kernel_rfl) (by kernel_rfl) (fun _ _ _ h => h) (Or.inl ⟨?_, ?_⟩) (by assumption) ?_
  rotate_left 2
  · (simp only [List.getElem?_toArray, List.getElem?_cons_succ, List.getElem?_cons_zero]; try rfl)
  · rfl
  · (intro W9 hSw; (try dsimp only at hSw); first | (go_simp; done) | (go_simp; with_reducible rfl))
  simp only [Act.put, List.setIfInBounds_toArray, List.set_cons_zero, List.set_cons_succ]
  refine wpAnyH_take (i := 9) (oi := ?_) (v := ?_) ?_ (by kernel_rfl) (by kernel_rfl) (by kernel_rfl) (fun _ _ _ h => h) (Or.inl ⟨?_, ?_⟩) (by assumption) ?_
  rotate_left 2
  · (simp only [List.getElem?_toArray, List.getElem?_cons_succ, List.getElem?_cons_zero]; try rfl)
  · rfl
  · (intro W9 hSw; (try dsimp only at hSw); first | (go_simp; done) | (go_simp; with_reducible rfl))
  simp only [Act.put, List.setIfInBounds_toArray, List.set_cons_zero, List.set_cons_succ]
  refine wpAnyH_take (i := 10) (oi := ?_) (v := ?_) ?_ (by kernel_rfl) (by kernel_rfl) (by kernel_rfl) (fun _ _ _ h => h) (Or.inl ⟨?_, ?_⟩) (by assumption) ?_
  rotate_left 2
  · (simp only [List.getElem?_toArray, List.getElem?_cons_succ, List.getElem?_cons_zero]; try rfl)
  · rfl
  · (intro W9 hSw; (try dsimp only at hSw); first | (go_simp; done) | (go_simp; with_reducible rfl))
  simp only [Act.put, List.setIfInBounds_toArray, List.set_cons_zero, List.set_cons_succ]
  refine wpAnyH_ready (rs := [11]) (by kernel_rfl) (by simp) ?_
  refine AllReadyH.cons (o := ?_) ?_ (fun K hK => ?_) AllReadyH.nil
  rotate_left 1
  · (simp only [List.getElem?_toArray, List.getElem?_cons_succ, List.getElem?_cons_zero]; try rfl)
  go_simp
  refine hK.out _ _ j17 (fun hHeld => ?_)
  clear hK K
  refine wpAnyH_ready (rs := [12]) (by kernel_rfl) (by simp) ?_
  refine AllReadyH.cons (o := ?_) ?_ (fun K hK => ?_) AllReadyH.nil
  rotate_left 1
  · (simp only [List.getElem?_toArray, List.getElem?_cons_succ, List.getElem?_cons_zero]; try rfl)
  go_simp
  refine (isp_any sb c W l I _ V _ HW.out HU.out.2.2.2.2.1 HU.out.1 (by omega)).mono ?_
  rintro e w1 ⟨N, rfl, hS1, hG1, hN⟩
  have HP := Lib.hid (HU.out.only hG1 hS1)
  have HN := Lib.hid (NewW.low hN (Nat.le_trans HU.out.2.2.2.2.2.1 (Nat.le_refl _)))
  clear hS1 hG1 hN
  clear j15 j17 j0 jf0 j1 jf1 zd zl zs zc
  obtain ⟨j15, j17⟩ := HP.out.2.1
  obtain ⟨j0, jf0⟩ := HP.out.2.2.1
  obtain ⟨j1, jf1⟩ := HP.out.2.2.2.1
  obtain ⟨zd, zl, zs, zc⟩ := HP.out.lt
  refine hK.out _ _ HP.out.2.1.2 (fun hHeld => ?_)
  clear hK K
  refine wpAnyH_take (i := 13) (oi := ?_) (v := ?_) ?_ (by kernel_rfl) (by kernel_rfl) (by kernel_rfl) (fun _ _ _ h => h) (Or.inl ⟨?_, ?_⟩) (by assumption) ?_
  rotate_left 2
  · (simp only [List.getElem?_toArray, List.getElem?_cons_succ, List.getElem?_cons_zero]; try rfl)
  · rfl
  · (intro W9 hSw; (try dsimp only at hSw); first | (go_simp; done) | (go_simp; with_reducible rfl))
  simp only [Act.put, List.setIfInBounds_toArray, List.set_cons_zero, List.set_cons_succ]
  refine wpAnyH_take (i := 14) (oi := ?_) (v := ?_) ?_ (by kernel_rfl) (by kernel_rfl) (by kernel_rfl) (fun _ _ _ h => h) (Or.inl ⟨?_, ?_⟩) (by assumption) ?_
  rotate_left 2
  · (simp only [List.getElem?_toArray, List.getElem?_cons_succ, List.getElem?_cons_zero]; try rfl)
  · rfl
  · (intro W9 hSw; (try dsimp only at hSw); first | (go_simp; done) | (go_simp; with_reducible rfl))
  simp only [Act.put, List.setIfInBounds_toArray, List.set_cons_zero, List.set_cons_succ]
  refine wpAnyH_ready (rs := [15]) (by kernel_rfl) (by simp) ?_
  refine AllReadyH.cons (o := ?_) ?_ (fun K hK => ?_) AllReadyH.nil
  rotate_left 1
  · (simp only [List.getElem?_toArray, List.getElem?_cons_succ, List.getElem?_cons_zero]; try rfl)
  go_simp
  have HQ := Lib.hid (HP.out.set0 (y := (.iface 42 (.pointer (some ⟨N, 0, none⟩)))))
  refine hK.out _ _ HQ.out.2.1.2 (fun hHeld => ?_)
  clear hK K
  refine wpAnyH_done (by kernel_rfl) ?_ _
  refine NoPanic.normal ?_
  go_wp2_with fail
  refine wp_gen (fun U => PS V w.heap.size sb c d sl (false || decide (0 < k) || I) (.iface 42 (.pointer (some ⟨N, 0, none⟩))) U ∧ NewW U w.heap.size W N l I) ⟨HQ.out, HN.out.keep (fun b hb _ => Below.heap_setCell _ _ _ _ (fun e => by have := HZ.out.2; simp at e; omega))⟩ ?_
  clear HQ HP HU HN j15 j17 j0 jf0 j1 jf1 zd zl zs zc
  intro U hU
  have HU := Lib.hid hU.1
  have HN := Lib.hid (NewW.keep (w' := U.drew) hU.2 (fun _ _ _ => rfl))
  clear hU
  have HU := Lib.hid (HU.out.below (below_drew U))
  obtain ⟨j15, j17⟩ := HU.out.2.1
  obtain ⟨j0, jf0⟩ := HU.out.2.2.1
  obtain ⟨j1, jf1⟩ := HU.out.2.2.2.1
  obtain ⟨zd, zl, zs, zc⟩ := HU.out.lt
  refine wp_region_noPanic ?_
  refine wp_region_held_drew (S := (fun U9 => U9.cell? ⟨d, 17, none⟩ = some (.pointer (some ⟨sl, 0, none⟩)))) (by kernel_rfl) j17 (fun hHeld => ?_)
  refine wpAnyH_take (i := 0) (oi := ?_) (v := ?_) ?_ (by kernel_rfl) (by kernel_rfl) (by kernel_rfl) (fun _ _ _ h => h) (Or.inl ⟨?_, ?_⟩) (by assumption) ?_
  rotate_left 2
  · (simp only [List.getElem?_toArray, List.getElem?_cons_zero]; try rfl)
  · rfl
  · (intro W9 hSw; (try dsimp only at hSw); first | (go_simp; done) | (go_simp; with_reducible rfl))
  simp only [Act.put, List.setIfInBounds_toArray, List.set_cons_zero, List.set_cons_succ]
  refine wpAnyH_take (i := 1) (oi := ?_) (v := ?_) ?_ (by kernel_rfl) (by kernel_rfl) (by kernel_rfl) (fun _ _ _ h => h) (Or.inl ⟨?_, ?_⟩) (by assumption) ?_
  rotate_left 2
  · (simp only [List.getElem?_toArray, List.getElem?_cons_succ, List.getElem?_cons_zero]; try rfl)
  · rfl
  · (intro W9 hSw; (try dsimp only at hSw); first | (go_simp; done) | (go_simp; with_reducible rfl))
  simp only [Act.put, List.setIfInBounds_toArray, List.set_cons_zero, List.set_cons_succ]
  refine wpAnyH_take (i := 2) (oi := ?_) (v := ?_) ?_ (by kernel_rfl) (by kernel_rfl) (by kernel_rfl) (fun _ _ _ h => h) (Or.inl ⟨?_, ?_⟩) (by assumption) ?_
  rotate_left 2
  · (simp only [List.getElem?_toArray, List.getElem?_cons_succ, List.getElem?_cons_zero]; try rfl)
  · rfl
  · (intro W9 hSw; (try dsimp only at hSw); first | (go_simp; done) | (go_simp; with_reducible rfl))
  simp only [Act.put, List.setIfInBounds_toArray, List.set_cons_zero, List.set_cons_succ]
  refine wpAnyH_take (i := 3) (oi := ?_) (v := ?_) ?_ (by kernel_rfl) (by kernel_rfl) (by kernel_rfl) (fun _ _ _ h => h) (Or.inl ⟨?_, ?_⟩) (by assumption) ?_
  rotate_left 2
  · (simp only [List.getElem?_toArray, List.getElem?_cons_succ, List.getElem?_cons_zero]; try rfl)
  · rfl
  · (intro W9 hSw; (try dsimp only at hSw); first | (go_simp; done) | (go_simp; with_reducible rfl))
  simp only [Act.put, List.setIfInBounds_toArray, List.set_cons_zero, List.set_cons_succ]
  refine wpAnyH_take (i := 4) (oi := ?_) (v := ?_) ?_ (by kernel_rfl) (by kernel_rfl) (by kernel_rfl) (fun _ _ _ h => h) (Or.inl ⟨?_, ?_⟩) (by assumption) ?_
  rotate_left 2
  · (simp only [List.getElem?_toArray, List.getElem?_cons_succ, List.getElem?_cons_zero]; try rfl)
  · rfl
  · (intro W9 hSw; (try dsimp only at hSw); first | (go_simp; done) | (go_simp; with_reducible rfl))
  simp only [Act.put, List.setIfInBounds_toArray, List.set_cons_zero, List.set_cons_succ]
  refine wpAnyH_take (i := 5) (oi := ?_) (v := ?_) ?_ (by kernel_rfl) (by kernel_rfl) (by kernel_rfl) (fun _ _ _ h => h) (Or.inl ⟨?_, ?_⟩) (by assumption) ?_
  rotate_left 2
  · (simp only [List.getElem?_toArray, List.getElem?_cons_succ, List.getElem?_cons_zero]; try rfl)
  · rfl
  · (intro W9 hSw; (try dsimp only at hSw); first | (go_simp; done) | (go_simp; with_reducible rfl))
  simp only [Act.put, List.setIfInBounds_toArray, List.set_cons_zero, List.set_cons_succ]
  refine wpAnyH_take (i := 6) (oi := ?_) (v := ?_) ?_ (by kernel_rfl) (by kernel_rfl) (by kernel_rfl) (fun _ _ _ h => h) (Or.inl ⟨?_, ?_⟩) (by assumption) ?_
  rotate_left 2
  · (simp only [List.getElem?_toArray, List.getElem?_cons_succ, List.getElem?_cons_zero]; try rfl)
  · rfl
  · (intro W9 hSw; (try dsimp only at hSw); first | (go_simp; done) | (go_simp; with_reducible rfl))
  simp only [Act.put, List.setIfInBounds_toArray, List.set_cons_zero, List.set_cons_succ]
  refine wpAnyH_take (i := 7) (oi := ?_) (v := ?_) ?_ (by kernel_rfl) (by kernel_rfl) (by kernel_rfl) (fun _ _ _ h => h) (Or.inl ⟨?_, ?_⟩) (by assumption) ?_
  rotate_left 2
  · (simp only [List.getElem?_toArray, List.getElem?_cons_succ, List.getElem?_cons_zero]; try rfl)
  · rfl
  · (intro W9 hSw; (try dsimp only at hSw); first | (go_simp; done) | (go_simp; with_reducible rfl))
  simp only [Act.put, List.setIfInBounds_toArray, List.set_cons_zero, List.set_cons_succ]
  refine wpAnyH_take (i := 8) (oi := ?_) (v := ?_) ?_ (by kernel_rfl) (by kernel_rfl) (by kernel_rfl) (fun _ _ _ h => h) (Or.inl ⟨?_, ?_⟩) (by assumption) ?_
  rotate_left 2
  · (simp only [List.getElem?_toArray, List.getElem?_cons_succ, List.getElem?_cons_zero]; try rfl)
  · rfl
  · (intro W9 hSw; (try dsimp only at hSw); first | (go_simp; done) | (go_simp; with_reducible rfl))
  simp only [Act.put, List.setIfInBounds_toArray, List.set_cons_zero, List.set_cons_succ]
  refine wpAnyH_take (i := 9) (oi := ?_) (v := ?_) ?_ (by kernel_rfl) (by kernel_rfl) (by kernel_rfl) (fun _ _ _ h => h) (Or.inl ⟨?_, ?_⟩) (by assumption) ?_
  rotate_left 2
  · (simp only [List.getElem?_toArray, List.getElem?_cons_succ, List.getElem?_cons_zero]; try rfl)
  · rfl
  · (intro W9 hSw; (try dsimp only at hSw); first | (go_simp; done) | (go_simp; with_reducible rfl))
  simp only [Act.put, List.setIfInBounds_toArray, List.set_cons_zero, List.set_cons_succ]
  refine wpAnyH_take (i := 10) (oi := ?_) (v := ?_) ?_ (by kernel_rfl) (by kernel_rfl) (by kernel_rfl) (fun _ _ _ h => h) (Or.inl ⟨?_, ?_⟩) (by assumption) ?_
  rotate_left 2
  · (simp only [List.getElem?_toArray, List.getElem?_cons_succ, List.getElem?_cons_zero]; try rfl)
  · rfl
  · (intro W9 hSw; (try dsimp only at hSw); first | (go_simp; done) | (go_simp; with_reducible rfl))
  simp only [Act.put, List.setIfInBounds_toArray, List.set_cons_zero, List.set_cons_succ]
  refine wpAnyH_ready (rs := [11]) (by kernel_rfl) (by simp) ?_
  refine AllReadyH.cons (o := ?_) ?_ (fun K hK => ?_) AllReadyH.nil
  rotate_left 1
  · (simp only [List.getElem?_toArray, List.getElem?_cons_succ, List.getElem?_cons_zero]; try rfl)
  go_simp
  refine hK.out _ _ j17 (fun hHeld => ?_)
  clear hK K
  refine wpAnyH_ready (rs := [12]) (by kernel_rfl) (by simp) ?_
  refine AllReadyH.cons (o := ?_) ?_ (fun K hK => ?_) AllReadyH.nil
  rotate_left 1
  · (simp only [List.getElem?_toArray, List.getElem?_cons_succ, List.getElem?_cons_zero]; try rfl)
  go_simp
  refine (rp_no sb _ _ as_ArithmExpr_nil_ParenArithm).mono ?_
  rintro e w1 ⟨rfl, rfl⟩
  have HP := HU
  refine hK.out _ _ HP.out.2.1.2 (fun hHeld => ?_)
  clear hK K
  refine wpAnyH_take (i := 13) (oi := ?_) (v := ?_) ?_ (by kernel_rfl) (by kernel_rfl) (by kernel_rfl) (fun _ _ _ h => h) (Or.inl ⟨?_, ?_⟩) (by assumption) ?_
  rotate_left 2
  · (simp only [List.getElem?_toArray, List.getElem?_cons_succ, List.getElem?_cons_zero]; try rfl)
  · rfl
  · (intro W9 hSw; (try dsimp only at hSw); first | (go_simp; done) | (go_simp; with_reducible rfl))
  simp only [Act.put, List.setIfInBounds_toArray, List.set_cons_zero, List.set_cons_succ]
  refine wpAnyH_take (i := 14) (oi := ?_) (v := ?_) ?_ (by kernel_rfl) (by kernel_rfl) (by kernel_rfl) (fun _ _ _ h => h) (Or.inl ⟨?_, ?_⟩) (by assumption) ?_
  rotate_left 2
  · (simp only [List.getElem?_toArray, List.getElem?_cons_succ, List.getElem?_cons_zero]; try rfl)
  · rfl
  · (intro W9 hSw; (try dsimp only at hSw); first | (go_simp; done) | (go_simp; with_reducible rfl))
  simp only [Act.put, List.setIfInBounds_toArray, List.set_cons_zero, List.set_cons_succ]
  refine wpAnyH_ready (rs := [15]) (by kernel_rfl) (by simp) ?_
  refine AllReadyH.cons (o := ?_) ?_ (fun K hK => ?_) AllReadyH.nil
  rotate_left 1
  · (simp only [List.getElem?_toArray, List.getElem?_cons_succ, List.getElem?_cons_zero]; try rfl)
  go_simp
  have HQ := Lib.hid (HP.out.set1)
  refine hK.out _ _ HQ.out.2.1.2 (fun hHeld => ?_)
  clear hK K
  refine wpAnyH_done (by kernel_rfl) ?_ _
  refine NoPanic.normal ?_
  go_wp2_with fail
  refine wp_gen (fun U => PS V w.heap.size sb c d sl (false || decide (0 < k) || I) (.iface 42 (.pointer (some ⟨N, 0, none⟩))) U ∧ NewW U w.heap.size W N l I) ⟨HQ.out, HN.out.keep (fun b hb _ => Below.heap_setCell _ _ _ _ (fun e => by have := HZ.out.2; simp at e; omega))⟩ ?_
  clear HQ HP HU HN j15 j17 j0 jf0 j1 jf1 zd zl zs zc
  intro U hU
  have HU := Lib.hid hU.1
  have HN := Lib.hid (NewW.keep (w' := U.drew) hU.2 (fun _ _ _ => rfl))
  clear hU
  have HU := Lib.hid (HU.out.below (below_drew U))
  obtain ⟨j15, j17⟩ := HU.out.2.1
  obtain ⟨j0, jf0⟩ := HU.out.2.2.1
  obtain ⟨j1, jf1⟩ := HU.out.2.2.2.1
  obtain ⟨zd, zl, zs, zc⟩ := HU.out.lt
  refine wp_region_noPanic ?_
  refine wp_region_held_drew (S := (fun U9 => U9.cell? ⟨d, 17, none⟩ = some (.pointer (some ⟨sl, 0, none⟩)))) (by kernel_rfl) j17 (fun hHeld => ?_)
  refine wpAnyH_take (i := 0) (oi := ?_) (v := ?_) ?_ (by kernel_rfl) (by kernel_rfl) (by kernel_rfl) (fun _ _ _ h => h) (Or.inl ⟨?_, ?_⟩) (by assumption) ?_
  rotate_left 2
  · (simp only [List.getElem?_toArray, List.getElem?_cons_zero]; try rfl)
  · rfl
  · (intro W9 hSw; (try dsimp only at hSw); first | (go_simp; done) | (go_simp; with_reducible rfl))
  simp only [Act.put, List.setIfInBounds_toArray, List.set_cons_zero, List.set_cons_succ]
  refine wpAnyH_take (i := 1) (oi := ?_) (v := ?_) ?_ (by kernel_rfl) (by kernel_rfl) (by kernel_rfl) (fun _ _ _ h => h) (Or.inl ⟨?_, ?_⟩) (by assumption) ?_
  rotate_left 2
  · (simp only [List.getElem?_toArray, List.getElem?_cons_succ, List.getElem?_cons_zero]; try rfl)
  · rfl
  · (intro W9 hSw; (try dsimp only at hSw); first | (go_simp; done) | (go_simp; with_reducible rfl))
  simp only [Act.put, List.setIfInBounds_toArray, List.set_cons_zero, List.set_cons_succ]
  refine wpAnyH_take (i := 2) (oi := ?_) (v := ?_) ?_ (by kernel_rfl) (by kernel_rfl) (by kernel_rfl) (fun _ _ _ h => h) (Or.inl ⟨?_, ?_⟩) (by assumption) ?_
  rotate_left 2
  · (simp only [List.getElem?_toArray, List.getElem?_cons_succ, List.getElem?_cons_zero]; try rfl)
  · rfl
  · (intro W9 hSw; (try dsimp only at hSw); first | (go_simp; done) | (go_simp; with_reducible rfl))
  simp only [Act.put, List.setIfInBounds_toArray, List.set_cons_zero, List.set_cons_succ]
  refine wpAnyH_take (i := 3) (oi := ?_) (v := ?_) ?_ (by kernel_rfl) (by kernel_rfl) (by kernel_rfl) (fun _ _ _ h => h) (Or.inl ⟨?_, ?_⟩) (by assumption) ?_
  rotate_left 2
  · (simp only [List.getElem?_toArray, List.getElem?_cons_succ, List.getElem?_cons_zero]; try rfl)
  · rfl
  · (intro W9 hSw; (try dsimp only at hSw); first | (go_simp; done) | (go_simp; with_reducible rfl))
  simp only [Act.put, List.setIfInBounds_toArray, List.set_cons_zero, List.set_cons_succ]
  refine wpAnyH_take (i := 4) (oi := ?_) (v := ?_) ?_ (by kernel_rfl) (by kernel_rfl) (by kernel_rfl) (fun _ _ _ h => h) (Or.inl ⟨?_, ?_⟩) (by assumption) ?_
  rotate_left 2
  · (simp only [List.getElem?_toArray, List.getElem?_cons_succ, List.getElem?_cons_zero]; try rfl)
  · rfl
  · (intro W9 hSw; (try dsimp only at hSw); first | (go_simp; done) | (go_simp; with_reducible rfl))
  simp only [Act.put, List.setIfInBounds_toArray, List.set_cons_zero, List.set_cons_succ]
  refine wpAnyH_take (i := 5) (oi := ?_) (v := ?_) ?_ (by kernel_rfl) (by kernel_rfl) (by kernel_rfl) (fun _ _ _ h => h) (Or.inl ⟨?_, ?_⟩) (by assumption) ?_
  rotate_left 2
  · (simp only [List.getElem?_toArray, List.getElem?_cons_succ, List.getElem?_cons_zero]; try rfl)
  · rfl
  · (intro W9 hSw; (try dsimp only at hSw); first | (go_simp; done) | (go_simp; with_reducible rfl))
  simp only [Act.put, List.setIfInBounds_toArray, List.set_cons_zero, List.set_cons_succ]
  refine wpAnyH_take (i := 6) (oi := ?_) (v := ?_) ?_ (by kernel_rfl) (by kernel_rfl) (by kernel_rfl) (fun _ _ _ h => h) (Or.inl ⟨?_, ?_⟩) (by assumption) ?_
  rotate_left 2
  · (simp only [List.getElem?_toArray, List.getElem?_cons_succ, List.getElem?_cons_zero]; try rfl)
  · rfl
  · (intro W9 hSw; (try dsimp only at hSw); first | (go_simp; done) | (go_simp; with_reducible rfl))
  simp only [Act.put, List.setIfInBounds_toArray, List.set_cons_zero, List.set_cons_succ]
  refine wpAnyH_take (i := 7) (oi := ?_) (v := ?_) ?_ (by kernel_rfl) (by kernel_rfl) (by kernel_rfl) (fun _ _ _ h => h) (Or.inl ⟨?_, ?_⟩) (by assumption) ?_
  rotate_left 2
  · (simp only [List.getElem?_toArray, List.getElem?_cons_succ, List.getElem?_cons_zero]; try rfl)
  · rfl
  · (intro W9 hSw; (try dsimp only at hSw); first | (go_simp; done) | (go_simp; with_reducible rfl))
  simp only [Act.put, List.setIfInBounds_toArray, List.set_cons_zero, List.set_cons_succ]
  refine wpAnyH_take (i := 8) (oi := ?_) (v := ?_) ?_ (by kernel_rfl) (by kernel_rfl) (by kernel_rfl) (fun _ _ _ h => h) (Or.inl ⟨?_, ?_⟩) (by assumption) ?_
  rotate_left 2
  · (simp only [List.getElem?_toArray, List.getElem?_cons_succ, List.getElem?_cons_zero]; try rfl)
  · rfl
  · (intro W9 hSw; (try dsimp only at hSw); first | (go_simp; done) | (go_simp; with_reducible rfl))
  simp only [Act.put, List.setIfInBounds_toArray, List.set_cons_zero, List.set_cons_succ]
  refine wpAnyH_take (i := 9) (oi := ?_) (v := ?_) ?_ (by kernel_rfl) (by kernel_rfl) (by kernel_rfl) (fun _ _ _ h => h) (Or.inl ⟨?_, ?_⟩) (by assumption) ?_
  rotate_left 2
  · (simp only [List.getElem?_toArray, List.getElem?_cons_succ, List.getElem?_cons_zero]; try rfl)
  · rfl
  · (intro W9 hSw; (try dsimp only at hSw); first | (go_simp; done) | (go_simp; with_reducible rfl))
  simp only [Act.put, List.setIfInBounds_toArray, List.set_cons_zero, List.set_cons_succ]
  refine wpAnyH_take (i := 10) (oi := ?_) (v := ?_) ?_ (by kernel_rfl) (by kernel_rfl) (by kernel_rfl) (fun _ _ _ h => h) (Or.inl ⟨?_, ?_⟩) (by assumption) ?_
  rotate_left 2
  · (simp only [List.getElem?_toArray, List.getElem?_cons_succ, List.getElem?_cons_zero]; try rfl)
  · rfl
  · (intro W9 hSw; (try dsimp only at hSw); first | (go_simp; done) | (go_simp; with_reducible rfl))
  simp only [Act.put, List.setIfInBounds_toArray, List.set_cons_zero, List.set_cons_succ]
  refine wpAnyH_ready (rs := [11]) (by kernel_rfl) (by simp) ?_
  refine AllReadyH.cons (o := ?_) ?_ (fun K hK => ?_) AllReadyH.nil
  rotate_left 1
  · (simp only [List.getElem?_toArray, List.getElem?_cons_succ, List.getElem?_cons_zero]; try rfl)
  go_simp
  refine hK.out _ _ j17 (fun hHeld => ?_)
  clear hK K
  refine wpAnyH_ready (rs := [12]) (by kernel_rfl) (by simp) ?_
  refine AllReadyH.cons (o := ?_) ?_ (fun K hK => ?_) AllReadyH.nil
  rotate_left 1
  · (simp only [List.getElem?_toArray, List.getElem?_cons_succ, List.getElem?_cons_zero]; try rfl)
  go_simp
  refine (isp_no sb _ _ as_ArithmExpr_nil_Word).mono ?_
  rintro e w1 ⟨rfl, rfl⟩
  have HP := HU
  refine hK.out _ _ HP.out.2.1.2 (fun hHeld => ?_)
  clear hK K
  refine wpAnyH_take (i := 13) (oi := ?_) (v := ?_) ?_ (by kernel_rfl) (by kernel_rfl) (by kernel_rfl) (fun _ _ _ h => h) (Or.inl ⟨?_, ?_⟩) (by assumption) ?_
  rotate_left 2
  · (simp only [List.getElem?_toArray, List.getElem?_cons_succ, List.getElem?_cons_zero]; try rfl)
  · rfl
  · (intro W9 hSw; (try dsimp only at hSw); first | (go_simp; done) | (go_simp; with_reducible rfl))
  simp only [Act.put, List.setIfInBounds_toArray, List.set_cons_zero, List.set_cons_succ]
  refine wpAnyH_take (i := 14) (oi := ?_) (v := ?_) ?_ (by kernel_rfl) (by kernel_rfl) (by kernel_rfl) (fun _ _ _ h => h) (Or.inl ⟨?_, ?_⟩) (by assumption) ?_
  rotate_left 2
  · (simp only [List.getElem?_toArray, List.getElem?_cons_succ, List.getElem?_cons_zero]; try rfl)
  · rfl
  · (intro W9 hSw; (try dsimp only at hSw); first | (go_simp; done) | (go_simp; with_reducible rfl))
  simp only [Act.put, List.setIfInBounds_toArray, List.set_cons_zero, List.set_cons_succ]
  refine wpAnyH_ready (rs := [15]) (by kernel_rfl) (by simp) ?_
  refine AllReadyH.cons (o := ?_) ?_ (fun K hK => ?_) AllReadyH.nil
  rotate_left 1
  · (simp only [List.getElem?_toArray, List.getElem?_cons_succ, List.getElem?_cons_zero]; try rfl)
  go_simp
  have HQ := Lib.hid (HP.out.set1)
  refine hK.out _ _ HQ.out.2.1.2 (fun hHeld => ?_)
  clear hK K
  refine wpAnyH_done (by kernel_rfl) ?_ _
  refine NoPanic.normal ?_
  go_wp2_with fail
  have hSf := HQ.out.1
  rw [Bool.false_or] at hSf
  refine bodyPost_end (v := .tuple #[]) (by simp [results, Try.results18]) rfl ⟨⟨rfl, N, HQ.out.2.2.1.1, hSf, HN.out.keep (fun b hb _ => Below.heap_setCell _ _ _ _ (fun e => by have := HZ.out.2; simp at e; omega)), HQ.out.2.2.2.2.1⟩, HQ.out.2.1.1, HQ.out.2.1.2, HQ.out.2.2.2.1.1⟩
end Go.Proofs.Ytgeaokgcmhkoaaa
