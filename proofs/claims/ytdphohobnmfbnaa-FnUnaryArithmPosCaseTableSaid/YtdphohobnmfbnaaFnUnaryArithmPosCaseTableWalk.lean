/- The walk of FnUnaryArithmPosCaseTable: the Go text returns true. Conditions: none beyond the kinds. -/
import Derived.Test.YtdphohobnmfbnaaNodePos
import Derived.Deep.RegionHeld3
namespace Go.Proofs.Ytdphohobnmfbnaa.fnUnaryArithmPosCaseTable
open Go.RowKit
set_option linter.unusedVariables false

set_option maxHeartbeats 8000000 in
set_option maxRecDepth 100000 in
theorem walk0 (a0 : Bool) (a2 a3 a4 a5 a6 a7 : Int) (w : World) :
    Calls Try.prog 13 #[.bool a0, .int .i64 0, .int .u32 a2, .int .u32 a3, .int .u32 a4, .int .u32 a5, .int .u32 a6, .int .u32 a7] w fun e w' => e = .returned (.bool true) ∧ Below w.heap.size w w' := by
  cases a0
  · go_enter Try.func13, Try.ntmps13
    go_wp2_with (first | (go_at_call 51; go_in) | (go_at_call 68; go_in) | (go_at_call 52; refine (litWord_at _ _ _ _ _).mono ?_; rintro e w' ⟨rfl, rfl⟩))
    refine wp_gen (fun W => Below w.heap.size w W ∧ PosIs Try.prog 53 (w.heap.size + 1 + 1 + 1 + 1 + 1 + 1 + 1 + 1 + 1) a2 a3 W ∧ W.cell? ⟨w.heap.size + 1 + 1 + 1 + 1 + 1 + 1 + 1 + 1 + 1 + 1 + 1 + 1 + 1 + 1 + 1, 0, none⟩ = some (.int .u32 a2) ∧ W.cell? ⟨w.heap.size + 1 + 1 + 1 + 1 + 1 + 1 + 1 + 1 + 1 + 1 + 1 + 1 + 1 + 1 + 1, 1, none⟩ = some (.int .u32 a3) ∧ w.heap.size + 1 + 1 + 1 + 1 + 1 + 1 + 1 + 1 + 1 + 1 + 1 + 1 + 1 + 1 + 1 < W.heap.size) ⟨by go_grown, (unArPos_pre (w.heap.size + 1 + 1 + 1 + 1 + 1 + 1 + 1 + 1 + 1) a2 a3 _ (by simp [go_sem]) (by simp [go_sem]) (by simp [go_sem]) (by simp)), by simp [go_sem], by simp [go_sem], by simp⟩ ?_
    rintro W ⟨hB, hP, c0, c1, z0⟩
    have HP := Lib.hid hP
    clear hP
    go_region_held3 (fun W9 => Below W.heap.size W W9 ∧ W9.cell? ⟨w.heap.size + 1 + 1 + 1 + 1 + 1 + 1 + 1 + 1 + 1 + 1 + 1 + 1 + 1 + 1 + 1, 0, none⟩ = some (.int .u32 a2) ∧ W9.cell? ⟨w.heap.size + 1 + 1 + 1 + 1 + 1 + 1 + 1 + 1 + 1 + 1 + 1 + 1 + 1 + 1 + 1, 1, none⟩ = some (.int .u32 a3))
      (first | exact ⟨below_drew _, c0, c1⟩ | exact ⟨by assumption, by assumption, by assumption⟩)
      (first | (go_at_call 53; refine (HP.out _ (And.left (by assumption))).mono ?_; rintro e w1 ⟨rfl, hb1⟩; have hb2 := below_next (And.left (by assumption)) hb1; have d0 := bget hb2 z0 c0; have d1 := bget hb2 z0 c1; clear hb1))
    go_wp2_with fail
    go_ret
    exact ⟨by simp, below_next hB hb2⟩
  · go_enter Try.func13, Try.ntmps13
    go_wp2_with (first | (go_at_call 51; go_in) | (go_at_call 68; go_in) | (go_at_call 52; refine (litWord_at _ _ _ _ _).mono ?_; rintro e w' ⟨rfl, rfl⟩))
    refine wp_gen (fun W => Below w.heap.size w W ∧ PosIs Try.prog 53 (w.heap.size + 1 + 1 + 1 + 1 + 1 + 1 + 1 + 1 + 1) a4 a5 W ∧ W.cell? ⟨w.heap.size + 1 + 1 + 1 + 1 + 1 + 1 + 1 + 1 + 1 + 1 + 1 + 1 + 1 + 1 + 1, 0, none⟩ = some (.int .u32 a4) ∧ W.cell? ⟨w.heap.size + 1 + 1 + 1 + 1 + 1 + 1 + 1 + 1 + 1 + 1 + 1 + 1 + 1 + 1 + 1, 1, none⟩ = some (.int .u32 a5) ∧ w.heap.size + 1 + 1 + 1 + 1 + 1 + 1 + 1 + 1 + 1 + 1 + 1 + 1 + 1 + 1 + 1 < W.heap.size) ⟨by go_grown, (unArPos_TWord (w.heap.size + 1 + 1 + 1 + 1 + 1 + 1 + 1 + 1 + 1) (w.heap.size + 1 + 1 + 1 + 1 + 1 + 1 + 1 + 1 + 1 + 1 + 1 + 1 + 1 + 1) a4 a5 _ (by simp [go_sem]) (by simp [go_sem]) (by simp) (wordPos_is (w.heap.size + 1 + 1 + 1 + 1 + 1 + 1 + 1 + 1 + 1 + 1 + 1 + 1 + 1 + 1) (w.heap.size + 1 + 1 + 1 + 1 + 1 + 1 + 1 + 1 + 1 + 1 + 1 + 1 + 1) (w.heap.size + 1 + 1 + 1 + 1 + 1 + 1 + 1 + 1 + 1 + 1 + 1 + 1) 1 1 a4 a5 _ (by omega) (by simp [go_sem]) (by simp [go_sem]) (by simp) (by simp) (litPos_is (w.heap.size + 1 + 1 + 1 + 1 + 1 + 1 + 1 + 1 + 1 + 1 + 1 + 1) a4 a5 _ (by simp [go_sem]) (by simp [go_sem]) (by simp)))), by simp [go_sem], by simp [go_sem], by simp⟩ ?_
    rintro W ⟨hB, hP, c0, c1, z0⟩
    have HP := Lib.hid hP
    clear hP
    go_region_held3 (fun W9 => Below W.heap.size W W9 ∧ W9.cell? ⟨w.heap.size + 1 + 1 + 1 + 1 + 1 + 1 + 1 + 1 + 1 + 1 + 1 + 1 + 1 + 1 + 1, 0, none⟩ = some (.int .u32 a4) ∧ W9.cell? ⟨w.heap.size + 1 + 1 + 1 + 1 + 1 + 1 + 1 + 1 + 1 + 1 + 1 + 1 + 1 + 1 + 1, 1, none⟩ = some (.int .u32 a5))
      (first | exact ⟨below_drew _, c0, c1⟩ | exact ⟨by assumption, by assumption, by assumption⟩)
      (first | (go_at_call 53; refine (HP.out _ (And.left (by assumption))).mono ?_; rintro e w1 ⟨rfl, hb1⟩; have hb2 := below_next (And.left (by assumption)) hb1; have d0 := bget hb2 z0 c0; have d1 := bget hb2 z0 c1; clear hb1))
    go_wp2_with fail
    go_ret
    exact ⟨by simp, below_next hB hb2⟩
set_option maxHeartbeats 8000000 in
set_option maxRecDepth 100000 in
theorem walk1 (a0 : Bool) (a2 a3 a4 a5 a6 a7 : Int) (w : World) :
    Calls Try.prog 13 #[.bool a0, .int .i64 1, .int .u32 a2, .int .u32 a3, .int .u32 a4, .int .u32 a5, .int .u32 a6, .int .u32 a7] w fun e w' => e = .returned (.bool true) ∧ Below w.heap.size w w' := by
  cases a0
  · go_enter Try.func13, Try.ntmps13
    go_wp2_with (first | (go_at_call 51; go_in) | (go_at_call 68; go_in) | (go_at_call 52; refine (litWord_at _ _ _ _ _).mono ?_; rintro e w' ⟨rfl, rfl⟩))
    go_region_held3 (fun W9 => W9.cell? ⟨w.heap.size + 1 + 1 + 1 + 1 + 1, 0, none⟩ = some (.int .u32 a4) ∧ W9.cell? ⟨w.heap.size + 1 + 1 + 1 + 1 + 1, 1, none⟩ = some (.int .u32 a5) ∧ W9.cell? ⟨w.heap.size + 1 + 1 + 1 + 1 + 1 + 1 + 1 + 1, 0, none⟩ = some (.int .u32 a6) ∧ W9.cell? ⟨w.heap.size + 1 + 1 + 1 + 1 + 1 + 1 + 1 + 1, 1, none⟩ = some (.int .u32 a7))
      (simp [go_sem])
      (first | (go_at_call 52; refine (litWord_at _ _ _ _ _).mono ?_; rintro e w' ⟨rfl, rfl⟩))
    go_wp2_with fail
    refine wp_gen (fun W => Below w.heap.size w W ∧ PosIs Try.prog 53 (w.heap.size + 1 + 1 + 1 + 1 + 1 + 1 + 1 + 1 + 1) a2 a3 W ∧ W.cell? ⟨w.heap.size + 1 + 1 + 1 + 1 + 1 + 1 + 1 + 1 + 1 + 1 + 1 + 1 + 1 + 1 + 1 + 1, 0, none⟩ = some (.int .u32 a2) ∧ W.cell? ⟨w.heap.size + 1 + 1 + 1 + 1 + 1 + 1 + 1 + 1 + 1 + 1 + 1 + 1 + 1 + 1 + 1 + 1, 1, none⟩ = some (.int .u32 a3) ∧ w.heap.size + 1 + 1 + 1 + 1 + 1 + 1 + 1 + 1 + 1 + 1 + 1 + 1 + 1 + 1 + 1 + 1 < W.heap.size) ⟨by go_grown, (unArPos_pre (w.heap.size + 1 + 1 + 1 + 1 + 1 + 1 + 1 + 1 + 1) a2 a3 _ (by simp [go_sem]) (by simp [go_sem]) (by simp [go_sem]) (by simp)), by simp [go_sem], by simp [go_sem], by simp⟩ ?_
    rintro W ⟨hB, hP, c0, c1, z0⟩
    have HP := Lib.hid hP
    clear hP
    go_region_held3 (fun W9 => Below W.heap.size W W9 ∧ W9.cell? ⟨w.heap.size + 1 + 1 + 1 + 1 + 1 + 1 + 1 + 1 + 1 + 1 + 1 + 1 + 1 + 1 + 1 + 1, 0, none⟩ = some (.int .u32 a2) ∧ W9.cell? ⟨w.heap.size + 1 + 1 + 1 + 1 + 1 + 1 + 1 + 1 + 1 + 1 + 1 + 1 + 1 + 1 + 1 + 1, 1, none⟩ = some (.int .u32 a3))
      (first | exact ⟨below_drew _, c0, c1⟩ | exact ⟨by assumption, by assumption, by assumption⟩)
      (first | (go_at_call 53; refine (HP.out _ (And.left (by assumption))).mono ?_; rintro e w1 ⟨rfl, hb1⟩; have hb2 := below_next (And.left (by assumption)) hb1; have d0 := bget hb2 z0 c0; have d1 := bget hb2 z0 c1; clear hb1))
    go_wp2_with fail
    go_ret
    exact ⟨by simp, below_next hB hb2⟩
  · go_enter Try.func13, Try.ntmps13
    go_wp2_with (first | (go_at_call 51; go_in) | (go_at_call 68; go_in) | (go_at_call 52; refine (litWord_at _ _ _ _ _).mono ?_; rintro e w' ⟨rfl, rfl⟩))
    go_region_held3 (fun W9 => W9.cell? ⟨w.heap.size + 1 + 1 + 1 + 1 + 1, 0, none⟩ = some (.int .u32 a4) ∧ W9.cell? ⟨w.heap.size + 1 + 1 + 1 + 1 + 1, 1, none⟩ = some (.int .u32 a5) ∧ W9.cell? ⟨w.heap.size + 1 + 1 + 1 + 1 + 1 + 1 + 1 + 1, 0, none⟩ = some (.int .u32 a6) ∧ W9.cell? ⟨w.heap.size + 1 + 1 + 1 + 1 + 1 + 1 + 1 + 1, 1, none⟩ = some (.int .u32 a7))
      (simp [go_sem])
      (first | (go_at_call 52; refine (litWord_at _ _ _ _ _).mono ?_; rintro e w' ⟨rfl, rfl⟩))
    go_wp2_with fail
    refine wp_gen (fun W => Below w.heap.size w W ∧ PosIs Try.prog 53 (w.heap.size + 1 + 1 + 1 + 1 + 1 + 1 + 1 + 1 + 1) a4 a5 W ∧ W.cell? ⟨w.heap.size + 1 + 1 + 1 + 1 + 1 + 1 + 1 + 1 + 1 + 1 + 1 + 1 + 1 + 1 + 1 + 1, 0, none⟩ = some (.int .u32 a4) ∧ W.cell? ⟨w.heap.size + 1 + 1 + 1 + 1 + 1 + 1 + 1 + 1 + 1 + 1 + 1 + 1 + 1 + 1 + 1 + 1, 1, none⟩ = some (.int .u32 a5) ∧ w.heap.size + 1 + 1 + 1 + 1 + 1 + 1 + 1 + 1 + 1 + 1 + 1 + 1 + 1 + 1 + 1 + 1 < W.heap.size) ⟨by go_grown, (unArPos_TParenAr (w.heap.size + 1 + 1 + 1 + 1 + 1 + 1 + 1 + 1 + 1) (w.heap.size + 1 + 1 + 1 + 1 + 1 + 1 + 1 + 1 + 1 + 1 + 1 + 1 + 1 + 1 + 1) a4 a5 _ (by simp [go_sem]) (by simp [go_sem]) (by simp) (parenArPos_is (w.heap.size + 1 + 1 + 1 + 1 + 1 + 1 + 1 + 1 + 1 + 1 + 1 + 1 + 1 + 1 + 1) a4 a5 _ (by simp [go_sem]) (by simp [go_sem]) (by simp))), by simp [go_sem], by simp [go_sem], by simp⟩ ?_
    rintro W ⟨hB, hP, c0, c1, z0⟩
    have HP := Lib.hid hP
    clear hP
    go_region_held3 (fun W9 => Below W.heap.size W W9 ∧ W9.cell? ⟨w.heap.size + 1 + 1 + 1 + 1 + 1 + 1 + 1 + 1 + 1 + 1 + 1 + 1 + 1 + 1 + 1 + 1, 0, none⟩ = some (.int .u32 a4) ∧ W9.cell? ⟨w.heap.size + 1 + 1 + 1 + 1 + 1 + 1 + 1 + 1 + 1 + 1 + 1 + 1 + 1 + 1 + 1 + 1, 1, none⟩ = some (.int .u32 a5))
      (first | exact ⟨below_drew _, c0, c1⟩ | exact ⟨by assumption, by assumption, by assumption⟩)
      (first | (go_at_call 53; refine (HP.out _ (And.left (by assumption))).mono ?_; rintro e w1 ⟨rfl, hb1⟩; have hb2 := below_next (And.left (by assumption)) hb1; have d0 := bget hb2 z0 c0; have d1 := bget hb2 z0 c1; clear hb1))
    go_wp2_with fail
    go_ret
    exact ⟨by simp, below_next hB hb2⟩
set_option maxHeartbeats 8000000 in
set_option maxRecDepth 100000 in
theorem walk2 (a0 : Bool) (a2 a3 a4 a5 a6 a7 : Int) (w : World) :
    Calls Try.prog 13 #[.bool a0, .int .i64 2, .int .u32 a2, .int .u32 a3, .int .u32 a4, .int .u32 a5, .int .u32 a6, .int .u32 a7] w fun e w' => e = .returned (.bool true) ∧ Below w.heap.size w w' := by
  cases a0
  · go_enter Try.func13, Try.ntmps13
    go_wp2_with (first | (go_at_call 51; go_in) | (go_at_call 68; go_in) | (go_at_call 52; refine (litWord_at _ _ _ _ _).mono ?_; rintro e w' ⟨rfl, rfl⟩))
    go_region_held3 (fun W9 => W9.cell? ⟨w.heap.size + 1 + 1 + 1 + 1 + 1, 0, none⟩ = some (.int .u32 a4) ∧ W9.cell? ⟨w.heap.size + 1 + 1 + 1 + 1 + 1, 1, none⟩ = some (.int .u32 a5) ∧ W9.cell? ⟨w.heap.size + 1 + 1 + 1 + 1 + 1 + 1 + 1 + 1, 0, none⟩ = some (.int .u32 a6) ∧ W9.cell? ⟨w.heap.size + 1 + 1 + 1 + 1 + 1 + 1 + 1 + 1, 1, none⟩ = some (.int .u32 a7))
      (simp [go_sem])
      (first | (go_at_call 52; refine (litWord_at _ _ _ _ _).mono ?_; rintro e w' ⟨rfl, rfl⟩))
    go_wp2_with fail
    refine wp_gen (fun W => Below w.heap.size w W ∧ PosIs Try.prog 53 (w.heap.size + 1 + 1 + 1 + 1 + 1 + 1 + 1 + 1 + 1) a2 a3 W ∧ W.cell? ⟨w.heap.size + 1 + 1 + 1 + 1 + 1 + 1 + 1 + 1 + 1 + 1 + 1 + 1 + 1 + 1 + 1 + 1 + 1 + 1 + 1 + 1 + 1, 0, none⟩ = some (.int .u32 a2) ∧ W.cell? ⟨w.heap.size + 1 + 1 + 1 + 1 + 1 + 1 + 1 + 1 + 1 + 1 + 1 + 1 + 1 + 1 + 1 + 1 + 1 + 1 + 1 + 1 + 1, 1, none⟩ = some (.int .u32 a3) ∧ w.heap.size + 1 + 1 + 1 + 1 + 1 + 1 + 1 + 1 + 1 + 1 + 1 + 1 + 1 + 1 + 1 + 1 + 1 + 1 + 1 + 1 + 1 < W.heap.size) ⟨by go_grown, (unArPos_pre (w.heap.size + 1 + 1 + 1 + 1 + 1 + 1 + 1 + 1 + 1) a2 a3 _ (by simp [go_sem]) (by simp [go_sem]) (by simp [go_sem]) (by simp)), by simp [go_sem], by simp [go_sem], by simp⟩ ?_
    rintro W ⟨hB, hP, c0, c1, z0⟩
    have HP := Lib.hid hP
    clear hP
    go_region_held3 (fun W9 => Below W.heap.size W W9 ∧ W9.cell? ⟨w.heap.size + 1 + 1 + 1 + 1 + 1 + 1 + 1 + 1 + 1 + 1 + 1 + 1 + 1 + 1 + 1 + 1 + 1 + 1 + 1 + 1 + 1, 0, none⟩ = some (.int .u32 a2) ∧ W9.cell? ⟨w.heap.size + 1 + 1 + 1 + 1 + 1 + 1 + 1 + 1 + 1 + 1 + 1 + 1 + 1 + 1 + 1 + 1 + 1 + 1 + 1 + 1 + 1, 1, none⟩ = some (.int .u32 a3))
      (first | exact ⟨below_drew _, c0, c1⟩ | exact ⟨by assumption, by assumption, by assumption⟩)
      (first | (go_at_call 53; refine (HP.out _ (And.left (by assumption))).mono ?_; rintro e w1 ⟨rfl, hb1⟩; have hb2 := below_next (And.left (by assumption)) hb1; have d0 := bget hb2 z0 c0; have d1 := bget hb2 z0 c1; clear hb1))
    go_wp2_with fail
    go_ret
    exact ⟨by simp, below_next hB hb2⟩
  · go_enter Try.func13, Try.ntmps13
    go_wp2_with (first | (go_at_call 51; go_in) | (go_at_call 68; go_in) | (go_at_call 52; refine (litWord_at _ _ _ _ _).mono ?_; rintro e w' ⟨rfl, rfl⟩))
    go_region_held3 (fun W9 => W9.cell? ⟨w.heap.size + 1 + 1 + 1 + 1 + 1, 0, none⟩ = some (.int .u32 a4) ∧ W9.cell? ⟨w.heap.size + 1 + 1 + 1 + 1 + 1, 1, none⟩ = some (.int .u32 a5) ∧ W9.cell? ⟨w.heap.size + 1 + 1 + 1 + 1 + 1 + 1 + 1 + 1, 0, none⟩ = some (.int .u32 a6) ∧ W9.cell? ⟨w.heap.size + 1 + 1 + 1 + 1 + 1 + 1 + 1 + 1, 1, none⟩ = some (.int .u32 a7))
      (simp [go_sem])
      (first | (go_at_call 52; refine (litWord_at _ _ _ _ _).mono ?_; rintro e w' ⟨rfl, rfl⟩))
    go_wp2_with fail
    refine wp_gen (fun W => Below w.heap.size w W ∧ PosIs Try.prog 53 (w.heap.size + 1 + 1 + 1 + 1 + 1 + 1 + 1 + 1 + 1) a4 a5 W ∧ W.cell? ⟨w.heap.size + 1 + 1 + 1 + 1 + 1 + 1 + 1 + 1 + 1 + 1 + 1 + 1 + 1 + 1 + 1 + 1 + 1 + 1 + 1 + 1 + 1, 0, none⟩ = some (.int .u32 a4) ∧ W.cell? ⟨w.heap.size + 1 + 1 + 1 + 1 + 1 + 1 + 1 + 1 + 1 + 1 + 1 + 1 + 1 + 1 + 1 + 1 + 1 + 1 + 1 + 1 + 1, 1, none⟩ = some (.int .u32 a5) ∧ w.heap.size + 1 + 1 + 1 + 1 + 1 + 1 + 1 + 1 + 1 + 1 + 1 + 1 + 1 + 1 + 1 + 1 + 1 + 1 + 1 + 1 + 1 < W.heap.size) ⟨by go_grown, (unArPos_TBinAr (w.heap.size + 1 + 1 + 1 + 1 + 1 + 1 + 1 + 1 + 1) (w.heap.size + 1 + 1 + 1 + 1 + 1 + 1 + 1 + 1 + 1 + 1 + 1 + 1 + 1 + 1 + 1 + 1 + 1 + 1 + 1 + 1) a4 a5 _ (by simp [go_sem]) (by simp [go_sem]) (by simp) (binArPos_TWord (w.heap.size + 1 + 1 + 1 + 1 + 1 + 1 + 1 + 1 + 1 + 1 + 1 + 1 + 1 + 1 + 1 + 1 + 1 + 1 + 1 + 1) (w.heap.size + 1 + 1 + 1 + 1 + 1 + 1 + 1 + 1 + 1 + 1 + 1 + 1 + 1 + 1) a4 a5 _ (by simp [go_sem]) (by simp) (wordPos_is (w.heap.size + 1 + 1 + 1 + 1 + 1 + 1 + 1 + 1 + 1 + 1 + 1 + 1 + 1 + 1) (w.heap.size + 1 + 1 + 1 + 1 + 1 + 1 + 1 + 1 + 1 + 1 + 1 + 1 + 1) (w.heap.size + 1 + 1 + 1 + 1 + 1 + 1 + 1 + 1 + 1 + 1 + 1 + 1) 1 1 a4 a5 _ (by omega) (by simp [go_sem]) (by simp [go_sem]) (by simp) (by simp) (litPos_is (w.heap.size + 1 + 1 + 1 + 1 + 1 + 1 + 1 + 1 + 1 + 1 + 1 + 1) a4 a5 _ (by simp [go_sem]) (by simp [go_sem]) (by simp))))), by simp [go_sem], by simp [go_sem], by simp⟩ ?_
    rintro W ⟨hB, hP, c0, c1, z0⟩
    have HP := Lib.hid hP
    clear hP
    go_region_held3 (fun W9 => Below W.heap.size W W9 ∧ W9.cell? ⟨w.heap.size + 1 + 1 + 1 + 1 + 1 + 1 + 1 + 1 + 1 + 1 + 1 + 1 + 1 + 1 + 1 + 1 + 1 + 1 + 1 + 1 + 1, 0, none⟩ = some (.int .u32 a4) ∧ W9.cell? ⟨w.heap.size + 1 + 1 + 1 + 1 + 1 + 1 + 1 + 1 + 1 + 1 + 1 + 1 + 1 + 1 + 1 + 1 + 1 + 1 + 1 + 1 + 1, 1, none⟩ = some (.int .u32 a5))
      (first | exact ⟨below_drew _, c0, c1⟩ | exact ⟨by assumption, by assumption, by assumption⟩)
      (first | (go_at_call 53; refine (HP.out _ (And.left (by assumption))).mono ?_; rintro e w1 ⟨rfl, hb1⟩; have hb2 := below_next (And.left (by assumption)) hb1; have d0 := bget hb2 z0 c0; have d1 := bget hb2 z0 c1; clear hb1))
    go_wp2_with fail
    go_ret
    exact ⟨by simp, below_next hB hb2⟩
set_option maxHeartbeats 8000000 in
set_option maxRecDepth 100000 in
theorem walk3 (a0 : Bool) (a2 a3 a4 a5 a6 a7 : Int) (w : World) :
    Calls Try.prog 13 #[.bool a0, .int .i64 3, .int .u32 a2, .int .u32 a3, .int .u32 a4, .int .u32 a5, .int .u32 a6, .int .u32 a7] w fun e w' => e = .returned (.bool true) ∧ Below w.heap.size w w' := by
  cases a0
  · go_enter Try.func13, Try.ntmps13
    go_wp2_with (first | (go_at_call 51; go_in) | (go_at_call 68; go_in) | (go_at_call 52; refine (litWord_at _ _ _ _ _).mono ?_; rintro e w' ⟨rfl, rfl⟩))
    go_region_held3 (fun W9 => W9.cell? ⟨w.heap.size + 1 + 1 + 1 + 1 + 1, 0, none⟩ = some (.int .u32 a4) ∧ W9.cell? ⟨w.heap.size + 1 + 1 + 1 + 1 + 1, 1, none⟩ = some (.int .u32 a5) ∧ W9.cell? ⟨w.heap.size + 1 + 1 + 1 + 1 + 1 + 1 + 1 + 1, 0, none⟩ = some (.int .u32 a6) ∧ W9.cell? ⟨w.heap.size + 1 + 1 + 1 + 1 + 1 + 1 + 1 + 1, 1, none⟩ = some (.int .u32 a7))
      (simp [go_sem])
      (first | (go_at_call 52; refine (litWord_at _ _ _ _ _).mono ?_; rintro e w' ⟨rfl, rfl⟩))
    go_wp2_with fail
    refine wp_gen (fun W => Below w.heap.size w W ∧ PosIs Try.prog 53 (w.heap.size + 1 + 1 + 1 + 1 + 1 + 1 + 1 + 1 + 1) a2 a3 W ∧ W.cell? ⟨w.heap.size + 1 + 1 + 1 + 1 + 1 + 1 + 1 + 1 + 1 + 1 + 1 + 1 + 1 + 1 + 1 + 1, 0, none⟩ = some (.int .u32 a2) ∧ W.cell? ⟨w.heap.size + 1 + 1 + 1 + 1 + 1 + 1 + 1 + 1 + 1 + 1 + 1 + 1 + 1 + 1 + 1 + 1, 1, none⟩ = some (.int .u32 a3) ∧ w.heap.size + 1 + 1 + 1 + 1 + 1 + 1 + 1 + 1 + 1 + 1 + 1 + 1 + 1 + 1 + 1 + 1 < W.heap.size) ⟨by go_grown, (unArPos_pre (w.heap.size + 1 + 1 + 1 + 1 + 1 + 1 + 1 + 1 + 1) a2 a3 _ (by simp [go_sem]) (by simp [go_sem]) (by simp [go_sem]) (by simp)), by simp [go_sem], by simp [go_sem], by simp⟩ ?_
    rintro W ⟨hB, hP, c0, c1, z0⟩
    have HP := Lib.hid hP
    clear hP
    go_region_held3 (fun W9 => Below W.heap.size W W9 ∧ W9.cell? ⟨w.heap.size + 1 + 1 + 1 + 1 + 1 + 1 + 1 + 1 + 1 + 1 + 1 + 1 + 1 + 1 + 1 + 1, 0, none⟩ = some (.int .u32 a2) ∧ W9.cell? ⟨w.heap.size + 1 + 1 + 1 + 1 + 1 + 1 + 1 + 1 + 1 + 1 + 1 + 1 + 1 + 1 + 1 + 1, 1, none⟩ = some (.int .u32 a3))
      (first | exact ⟨below_drew _, c0, c1⟩ | exact ⟨by assumption, by assumption, by assumption⟩)
      (first | (go_at_call 53; refine (HP.out _ (And.left (by assumption))).mono ?_; rintro e w1 ⟨rfl, hb1⟩; have hb2 := below_next (And.left (by assumption)) hb1; have d0 := bget hb2 z0 c0; have d1 := bget hb2 z0 c1; clear hb1))
    go_wp2_with fail
    go_ret
    exact ⟨by simp, below_next hB hb2⟩
  · go_enter Try.func13, Try.ntmps13
    go_wp2_with (first | (go_at_call 51; go_in) | (go_at_call 68; go_in) | (go_at_call 52; refine (litWord_at _ _ _ _ _).mono ?_; rintro e w' ⟨rfl, rfl⟩))
    go_region_held3 (fun W9 => W9.cell? ⟨w.heap.size + 1 + 1 + 1 + 1 + 1, 0, none⟩ = some (.int .u32 a4) ∧ W9.cell? ⟨w.heap.size + 1 + 1 + 1 + 1 + 1, 1, none⟩ = some (.int .u32 a5) ∧ W9.cell? ⟨w.heap.size + 1 + 1 + 1 + 1 + 1 + 1 + 1 + 1, 0, none⟩ = some (.int .u32 a6) ∧ W9.cell? ⟨w.heap.size + 1 + 1 + 1 + 1 + 1 + 1 + 1 + 1, 1, none⟩ = some (.int .u32 a7))
      (simp [go_sem])
      (first | (go_at_call 52; refine (litWord_at _ _ _ _ _).mono ?_; rintro e w' ⟨rfl, rfl⟩))
    go_wp2_with fail
    refine wp_gen (fun W => Below w.heap.size w W ∧ PosIs Try.prog 53 (w.heap.size + 1 + 1 + 1 + 1 + 1 + 1 + 1 + 1 + 1) a4 a5 W ∧ W.cell? ⟨w.heap.size + 1 + 1 + 1 + 1 + 1 + 1 + 1 + 1 + 1 + 1 + 1 + 1 + 1 + 1 + 1 + 1, 0, none⟩ = some (.int .u32 a4) ∧ W.cell? ⟨w.heap.size + 1 + 1 + 1 + 1 + 1 + 1 + 1 + 1 + 1 + 1 + 1 + 1 + 1 + 1 + 1 + 1, 1, none⟩ = some (.int .u32 a5) ∧ w.heap.size + 1 + 1 + 1 + 1 + 1 + 1 + 1 + 1 + 1 + 1 + 1 + 1 + 1 + 1 + 1 + 1 < W.heap.size) ⟨by go_grown, (unArPos_TUnAr (w.heap.size + 1 + 1 + 1 + 1 + 1 + 1 + 1 + 1 + 1) (w.heap.size + 1 + 1 + 1 + 1 + 1 + 1 + 1 + 1 + 1 + 1 + 1 + 1 + 1 + 1 + 1) a4 a5 _ (by simp [go_sem]) (by simp [go_sem]) (by simp) (unArPos_TWord (w.heap.size + 1 + 1 + 1 + 1 + 1 + 1 + 1 + 1 + 1 + 1 + 1 + 1 + 1 + 1 + 1) (w.heap.size + 1 + 1 + 1 + 1 + 1 + 1 + 1 + 1 + 1 + 1 + 1 + 1 + 1 + 1) a4 a5 _ (by simp [go_sem]) (by simp [go_sem]) (by simp) (wordPos_is (w.heap.size + 1 + 1 + 1 + 1 + 1 + 1 + 1 + 1 + 1 + 1 + 1 + 1 + 1 + 1) (w.heap.size + 1 + 1 + 1 + 1 + 1 + 1 + 1 + 1 + 1 + 1 + 1 + 1 + 1) (w.heap.size + 1 + 1 + 1 + 1 + 1 + 1 + 1 + 1 + 1 + 1 + 1 + 1) 1 1 a4 a5 _ (by omega) (by simp [go_sem]) (by simp [go_sem]) (by simp) (by simp) (litPos_is (w.heap.size + 1 + 1 + 1 + 1 + 1 + 1 + 1 + 1 + 1 + 1 + 1 + 1) a4 a5 _ (by simp [go_sem]) (by simp [go_sem]) (by simp))))), by simp [go_sem], by simp [go_sem], by simp⟩ ?_
    rintro W ⟨hB, hP, c0, c1, z0⟩
    have HP := Lib.hid hP
    clear hP
    go_region_held3 (fun W9 => Below W.heap.size W W9 ∧ W9.cell? ⟨w.heap.size + 1 + 1 + 1 + 1 + 1 + 1 + 1 + 1 + 1 + 1 + 1 + 1 + 1 + 1 + 1 + 1, 0, none⟩ = some (.int .u32 a4) ∧ W9.cell? ⟨w.heap.size + 1 + 1 + 1 + 1 + 1 + 1 + 1 + 1 + 1 + 1 + 1 + 1 + 1 + 1 + 1 + 1, 1, none⟩ = some (.int .u32 a5))
      (first | exact ⟨below_drew _, c0, c1⟩ | exact ⟨by assumption, by assumption, by assumption⟩)
      (first | (go_at_call 53; refine (HP.out _ (And.left (by assumption))).mono ?_; rintro e w1 ⟨rfl, hb1⟩; have hb2 := below_next (And.left (by assumption)) hb1; have d0 := bget hb2 z0 c0; have d1 := bget hb2 z0 c1; clear hb1))
    go_wp2_with fail
    go_ret
    exact ⟨by simp, below_next hB hb2⟩
set_option maxHeartbeats 8000000 in
set_option maxRecDepth 100000 in
theorem walk4 (a0 : Bool) (a2 a3 a4 a5 a6 a7 : Int) (w : World) :
    Calls Try.prog 13 #[.bool a0, .int .i64 4, .int .u32 a2, .int .u32 a3, .int .u32 a4, .int .u32 a5, .int .u32 a6, .int .u32 a7] w fun e w' => e = .returned (.bool true) ∧ Below w.heap.size w w' := by
  cases a0
  · go_enter Try.func13, Try.ntmps13
    go_wp2_with (first | (go_at_call 51; go_in) | (go_at_call 68; go_in) | (go_at_call 52; refine (litWord_at _ _ _ _ _).mono ?_; rintro e w' ⟨rfl, rfl⟩))
    go_region_held3 (fun W9 => W9.cell? ⟨w.heap.size + 1 + 1 + 1 + 1 + 1, 0, none⟩ = some (.int .u32 a4) ∧ W9.cell? ⟨w.heap.size + 1 + 1 + 1 + 1 + 1, 1, none⟩ = some (.int .u32 a5) ∧ W9.cell? ⟨w.heap.size + 1 + 1 + 1 + 1 + 1 + 1 + 1 + 1, 0, none⟩ = some (.int .u32 a6) ∧ W9.cell? ⟨w.heap.size + 1 + 1 + 1 + 1 + 1 + 1 + 1 + 1, 1, none⟩ = some (.int .u32 a7))
      (simp [go_sem])
      (first | (go_at_call 52; refine (litWord_at _ _ _ _ _).mono ?_; rintro e w' ⟨rfl, rfl⟩))
    go_wp2_with fail
    refine wp_gen (fun W => Below w.heap.size w W ∧ PosIs Try.prog 53 (w.heap.size + 1 + 1 + 1 + 1 + 1 + 1 + 1 + 1 + 1) a2 a3 W ∧ W.cell? ⟨w.heap.size + 1 + 1 + 1 + 1 + 1 + 1 + 1 + 1 + 1 + 1 + 1 + 1 + 1 + 1 + 1 + 1, 0, none⟩ = some (.int .u32 a2) ∧ W.cell? ⟨w.heap.size + 1 + 1 + 1 + 1 + 1 + 1 + 1 + 1 + 1 + 1 + 1 + 1 + 1 + 1 + 1 + 1, 1, none⟩ = some (.int .u32 a3) ∧ w.heap.size + 1 + 1 + 1 + 1 + 1 + 1 + 1 + 1 + 1 + 1 + 1 + 1 + 1 + 1 + 1 + 1 < W.heap.size) ⟨by go_grown, (unArPos_pre (w.heap.size + 1 + 1 + 1 + 1 + 1 + 1 + 1 + 1 + 1) a2 a3 _ (by simp [go_sem]) (by simp [go_sem]) (by simp [go_sem]) (by simp)), by simp [go_sem], by simp [go_sem], by simp⟩ ?_
    rintro W ⟨hB, hP, c0, c1, z0⟩
    have HP := Lib.hid hP
    clear hP
    go_region_held3 (fun W9 => Below W.heap.size W W9 ∧ W9.cell? ⟨w.heap.size + 1 + 1 + 1 + 1 + 1 + 1 + 1 + 1 + 1 + 1 + 1 + 1 + 1 + 1 + 1 + 1, 0, none⟩ = some (.int .u32 a2) ∧ W9.cell? ⟨w.heap.size + 1 + 1 + 1 + 1 + 1 + 1 + 1 + 1 + 1 + 1 + 1 + 1 + 1 + 1 + 1 + 1, 1, none⟩ = some (.int .u32 a3))
      (first | exact ⟨below_drew _, c0, c1⟩ | exact ⟨by assumption, by assumption, by assumption⟩)
      (first | (go_at_call 53; refine (HP.out _ (And.left (by assumption))).mono ?_; rintro e w1 ⟨rfl, hb1⟩; have hb2 := below_next (And.left (by assumption)) hb1; have d0 := bget hb2 z0 c0; have d1 := bget hb2 z0 c1; clear hb1))
    go_wp2_with fail
    go_ret
    exact ⟨by simp, below_next hB hb2⟩
  · go_enter Try.func13, Try.ntmps13
    go_wp2_with (first | (go_at_call 51; go_in) | (go_at_call 68; go_in) | (go_at_call 52; refine (litWord_at _ _ _ _ _).mono ?_; rintro e w' ⟨rfl, rfl⟩))
    go_region_held3 (fun W9 => W9.cell? ⟨w.heap.size + 1 + 1 + 1 + 1 + 1, 0, none⟩ = some (.int .u32 a4) ∧ W9.cell? ⟨w.heap.size + 1 + 1 + 1 + 1 + 1, 1, none⟩ = some (.int .u32 a5) ∧ W9.cell? ⟨w.heap.size + 1 + 1 + 1 + 1 + 1 + 1 + 1 + 1, 0, none⟩ = some (.int .u32 a6) ∧ W9.cell? ⟨w.heap.size + 1 + 1 + 1 + 1 + 1 + 1 + 1 + 1, 1, none⟩ = some (.int .u32 a7))
      (simp [go_sem])
      (first | (go_at_call 52; refine (litWord_at _ _ _ _ _).mono ?_; rintro e w' ⟨rfl, rfl⟩))
    go_wp2_with fail
    refine wp_gen (fun W => Below w.heap.size w W ∧ PosIs Try.prog 53 (w.heap.size + 1 + 1 + 1 + 1 + 1 + 1 + 1 + 1 + 1) a4 a5 W ∧ W.cell? ⟨w.heap.size + 1 + 1 + 1 + 1 + 1 + 1 + 1 + 1 + 1 + 1 + 1 + 1 + 1 + 1 + 1 + 1, 0, none⟩ = some (.int .u32 a4) ∧ W.cell? ⟨w.heap.size + 1 + 1 + 1 + 1 + 1 + 1 + 1 + 1 + 1 + 1 + 1 + 1 + 1 + 1 + 1 + 1, 1, none⟩ = some (.int .u32 a5) ∧ w.heap.size + 1 + 1 + 1 + 1 + 1 + 1 + 1 + 1 + 1 + 1 + 1 + 1 + 1 + 1 + 1 + 1 < W.heap.size) ⟨by go_grown, (unArPos_TUnAr (w.heap.size + 1 + 1 + 1 + 1 + 1 + 1 + 1 + 1 + 1) (w.heap.size + 1 + 1 + 1 + 1 + 1 + 1 + 1 + 1 + 1 + 1 + 1 + 1 + 1 + 1 + 1) a4 a5 _ (by simp [go_sem]) (by simp [go_sem]) (by simp) (unArPos_pre (w.heap.size + 1 + 1 + 1 + 1 + 1 + 1 + 1 + 1 + 1 + 1 + 1 + 1 + 1 + 1 + 1) a4 a5 _ (by simp [go_sem]) (by simp [go_sem]) (by simp [go_sem]) (by simp))), by simp [go_sem], by simp [go_sem], by simp⟩ ?_
    rintro W ⟨hB, hP, c0, c1, z0⟩
    have HP := Lib.hid hP
    clear hP
    go_region_held3 (fun W9 => Below W.heap.size W W9 ∧ W9.cell? ⟨w.heap.size + 1 + 1 + 1 + 1 + 1 + 1 + 1 + 1 + 1 + 1 + 1 + 1 + 1 + 1 + 1 + 1, 0, none⟩ = some (.int .u32 a4) ∧ W9.cell? ⟨w.heap.size + 1 + 1 + 1 + 1 + 1 + 1 + 1 + 1 + 1 + 1 + 1 + 1 + 1 + 1 + 1 + 1, 1, none⟩ = some (.int .u32 a5))
      (first | exact ⟨below_drew _, c0, c1⟩ | exact ⟨by assumption, by assumption, by assumption⟩)
      (first | (go_at_call 53; refine (HP.out _ (And.left (by assumption))).mono ?_; rintro e w1 ⟨rfl, hb1⟩; have hb2 := below_next (And.left (by assumption)) hb1; have d0 := bget hb2 z0 c0; have d1 := bget hb2 z0 c1; clear hb1))
    go_wp2_with fail
    go_ret
    exact ⟨by simp, below_next hB hb2⟩

set_option maxHeartbeats 2000000 in
set_option maxRecDepth 100000 in
theorem walk (a0 : Bool) (a1 : Int) (a2 : Int) (a3 : Int) (a4 : Int) (a5 : Int) (a6 : Int) (a7 : Int) (w : World) (w1 : (Lit.int .i64 a1).wf = true) (w2 : (Lit.int .u32 a2).wf = true) (w3 : (Lit.int .u32 a3).wf = true) (w4 : (Lit.int .u32 a4).wf = true) (w5 : (Lit.int .u32 a5).wf = true) (w6 : (Lit.int .u32 a6).wf = true) (w7 : (Lit.int .u32 a7).wf = true) :
    Calls Try.prog 13 #[.bool a0, .int .i64 a1, .int .u32 a2, .int .u32 a3, .int .u32 a4, .int .u32 a5, .int .u32 a6, .int .u32 a7] w fun e w' => e = .returned (.bool true) ∧ Below w.heap.size w w' := by
  have b1 := bounds_i64 w1
  have b2 := bounds_u32 w2
  have b3 := bounds_u32 w3
  have b4 := bounds_u32 w4
  have b5 := bounds_u32 w5
  have b6 := bounds_u32 w6
  have b7 := bounds_u32 w7
  clear w1 w2 w3 w4 w5 w6 w7
  by_cases h0 : a1 < 0
  · go_enter Try.func13, Try.ntmps13
    go_wp2
    go_ret
    exact ⟨rfl, by go_grown⟩
  by_cases h1 : 4 < a1
  · go_enter Try.func13, Try.ntmps13
    go_wp2
    go_ret
    exact ⟨rfl, by go_grown⟩
  have hk : a1 = 0 ∨ a1 = 1 ∨ a1 = 2 ∨ a1 = 3 ∨ a1 = 4 := by omega
  rcases hk with rfl | rfl | rfl | rfl | rfl
  · exact walk0 _ _ _ _ _ _ _ _
  · exact walk1 _ _ _ _ _ _ _ _
  · exact walk2 _ _ _ _ _ _ _ _
  · exact walk3 _ _ _ _ _ _ _ _
  · exact walk4 _ _ _ _ _ _ _ _
end Go.Proofs.Ytdphohobnmfbnaa.fnUnaryArithmPosCaseTable
