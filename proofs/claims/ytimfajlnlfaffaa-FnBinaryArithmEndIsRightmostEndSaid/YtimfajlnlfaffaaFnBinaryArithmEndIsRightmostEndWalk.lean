/- The walk of FnBinaryArithmEndIsRightmostEnd: the Go text returns true. Conditions: none beyond the kinds. -/
import Derived.Test.YtimfajlnlfaffaaNodeEnd
import Derived.Deep.RegionHeld3
namespace Go.Proofs.Ytimfajlnlfaffaa.fnBinaryArithmEndIsRightmostEnd
open Go.RowKit
set_option linter.unusedVariables false

theorem keep4 {w W9 : World} {b s : Nat} {v0 v1 u0 u1 : Value} (hQ : Below w.heap.size w W9) (hb : b < w.heap.size) (hs : s < w.heap.size) (h0 : w.cell? ⟨b, 0, none⟩ = some v0) (h1 : w.cell? ⟨b, 1, none⟩ = some v1) (h2 : w.cell? ⟨s, 0, none⟩ = some u0) (h3 : w.cell? ⟨s, 1, none⟩ = some u1) :
    W9.cell? ⟨b, 0, none⟩ = some v0 ∧ W9.cell? ⟨b, 1, none⟩ = some v1 ∧ W9.cell? ⟨s, 0, none⟩ = some u0 ∧ W9.cell? ⟨s, 1, none⟩ = some u1 := ⟨bget hQ hb h0, bget hQ hb h1, bget hQ hs h2, bget hQ hs h3⟩

/-- at the head of round k: the chain's outermost node lies at block c and ends at (a2, a3) -/
def Rel (W : World) (n : Nat) (a2 a3 : Int) (b i : Value) (wr : World) : Prop :=
  ∃ k c : Nat, 1 ≤ k ∧ k ≤ n ∧ i = .int .i64 k ∧ b = .pointer (some ⟨c, 0, none⟩) ∧ Below W.heap.size W wr ∧ PosIs Try.prog 14 c a2 a3 wr ∧ c < wr.heap.size

set_option maxHeartbeats 8000000 in
set_option maxRecDepth 100000 in
theorem walk0 (n : Nat) (hn : 1 ≤ n) (hn2 : n ≤ 4096) (a2 a3 a4 a5 : Int) (w : World) :
    Calls Try.prog 3 #[.int .i64 n, .int .i64 0, .int .u32 a2, .int .u32 a3, .int .u32 a4, .int .u32 a5] w fun e w' => e = .returned (.bool true) ∧ Below w.heap.size w w' := by
  have q1 : ¬ (n : Int) < 1 := by omega
  have q2 : ¬ 4096 < (n : Int) := by omega
  go_enter Try.func3, Try.ntmps3
  go_wp2_with (first | (go_at_call 12; go_in) | (go_at_call 63; go_in))
  go_region_held3 (fun W9 => W9.cell? ⟨w.heap.size + 1 + 1, 0, none⟩ = some (.int .u32 a2) ∧ W9.cell? ⟨w.heap.size + 1 + 1, 1, none⟩ = some (.int .u32 a3) ∧ W9.cell? ⟨w.heap.size + 1 + 1 + 1 + 1 + 1, 0, none⟩ = some (.int .u32 a4) ∧ W9.cell? ⟨w.heap.size + 1 + 1 + 1 + 1 + 1, 1, none⟩ = some (.int .u32 a5))
    (simp [go_sem])
    (first | (go_at_call 13; refine (litWord_at _ _ _ _ _).mono ?_; rintro e w' ⟨rfl, rfl⟩))
  go_wp2_with (go_at_call 13; refine (litWord_at _ _ _ _ _).mono ?_; rintro e w' ⟨rfl, rfl⟩)
  refine wp_gen (fun W => Below w.heap.size w W ∧ PosIs Try.prog 14 (w.heap.size + 1 + 1 + 1 + 1 + 1 + 1 + 1 + 1 + 1 + 1 + 1) a2 a3 W ∧ W.cell? ⟨w.heap.size + 1 + 1, 0, none⟩ = some (.int .u32 a2) ∧ W.cell? ⟨w.heap.size + 1 + 1, 1, none⟩ = some (.int .u32 a3) ∧ W.cell? ⟨w.heap.size + 1 + 1 + 1 + 1 + 1, 0, none⟩ = some (.int .u32 a4) ∧ W.cell? ⟨w.heap.size + 1 + 1 + 1 + 1 + 1, 1, none⟩ = some (.int .u32 a5) ∧ w.heap.size + 1 + 1 + 1 + 1 + 1 < W.heap.size ∧ w.heap.size + 1 + 1 + 1 + 1 + 1 + 1 + 1 + 1 + 1 + 1 + 1 < W.heap.size) ⟨by go_grown, (binArEnd_TWord (w.heap.size + 1 + 1 + 1 + 1 + 1 + 1 + 1 + 1 + 1 + 1 + 1) (w.heap.size + 1 + 1 + 1 + 1 + 1 + 1 + 1 + 1 + 1 + 1 + 1 + 1 + 1 + 1 + 1 + 1) a2 a3 _ (by simp [go_sem]) (by simp) (wordEnd_is (w.heap.size + 1 + 1 + 1 + 1 + 1 + 1 + 1 + 1 + 1 + 1 + 1 + 1 + 1 + 1 + 1 + 1) (w.heap.size + 1 + 1 + 1 + 1 + 1 + 1 + 1 + 1 + 1 + 1 + 1 + 1 + 1 + 1 + 1) (w.heap.size + 1 + 1 + 1 + 1 + 1 + 1 + 1 + 1 + 1 + 1 + 1 + 1 + 1 + 1) 1 1 a2 a3 _ (by omega) (by omega) (by simp [go_sem]) (by simp [go_sem]) (by simp) (by simp) (litEnd_is (w.heap.size + 1 + 1 + 1 + 1 + 1 + 1 + 1 + 1 + 1 + 1 + 1 + 1 + 1 + 1) a2 a3 _ (by simp [go_sem]) (by simp [go_sem]) (by simp)))), (by simp [go_sem]), (by simp [go_sem]), (by simp [go_sem]), (by simp [go_sem]), by simp, by simp⟩ ?_
  rintro W ⟨hB, hP, c0, c1, c2, c3, z0, z1⟩
  have HP := Lib.hid hP
  have z2 : w.heap.size + 1 + 1 < W.heap.size := by omega
  clear hP
  go_loopw [15, 16] (fun b i wr => Rel W n a2 a3 b i wr) (fun _ i _ => n - (intOf i).toNat)
  case atStart => exact ⟨1, w.heap.size + 1 + 1 + 1 + 1 + 1 + 1 + 1 + 1 + 1 + 1 + 1, by omega, hn, rfl, rfl, Below.refl _ _, HP.out, z1⟩
  case round =>
    obtain ⟨k, c, hk1, hk2, rfl, rfl, hWr, hPr, hcz⟩ := hrel
    have HPr := Lib.hid hPr
    have hWz := hWr.size
    have d0 := bget hWr z2 c0
    have d1 := bget hWr z2 c1
    have d2 := bget hWr z0 c2
    have d3 := bget hWr z0 c3
    have y0 : w.heap.size + 1 + 1 + 1 + 1 + 1 < wr.heap.size := Nat.lt_of_lt_of_le z0 hWr.size
    have y2 : w.heap.size + 1 + 1 < wr.heap.size := Nat.lt_of_lt_of_le z2 hWr.size
    clear hPr c0 c1 c2 c3 HP z1
    by_cases hlt : k < n
    · have v1 : (k : Int) < (n : Int) := by omega
      go_wp2_with fail
      go_region_held3 (fun W9 => W9.cell? ⟨w.heap.size + 1 + 1, 0, none⟩ = some (.int .u32 a2) ∧ W9.cell? ⟨w.heap.size + 1 + 1, 1, none⟩ = some (.int .u32 a3) ∧ W9.cell? ⟨w.heap.size + 1 + 1 + 1 + 1 + 1, 0, none⟩ = some (.int .u32 a4) ∧ W9.cell? ⟨w.heap.size + 1 + 1 + 1 + 1 + 1, 1, none⟩ = some (.int .u32 a5))
        (exact keep4 (by go_grown) y2 y0 d0 d1 d2 d3)
        (first | (go_at_call 13; refine (litWord_at _ _ _ _ _).mono ?_; rintro e w' ⟨rfl, rfl⟩))
      go_wp2_with fail
      go_roundw
      case rel => exact ⟨k + 1, wr.heap.size + 1 + 1 + 1 + 1 + 1, by omega, by omega, by go_num, rfl, by go_grown, binArEnd_TBinAr _ c a2 a3 _ (by simp [go_sem]) (by simp) (HPr.out.grow (by go_grown)), by simp⟩
      case measure => simp [intOf]; omega
    · obtain rfl : k = n := by omega
      have v1 : ¬ (k : Int) < (k : Int) := by omega
      go_wp2_with fail
      go_region_held3 (fun W9 => Below wr.heap.size wr W9 ∧ W9.cell? ⟨w.heap.size + 1 + 1, 0, none⟩ = some (.int .u32 a2) ∧ W9.cell? ⟨w.heap.size + 1 + 1, 1, none⟩ = some (.int .u32 a3))
        (first | exact ⟨below_drew _, d0, d1⟩ | exact ⟨by assumption, by assumption, by assumption⟩)
        (first | (go_at_call 14; refine (HPr.out _ (And.left (by assumption))).mono ?_; rintro e w1 ⟨rfl, hb1⟩; have hb2 := below_next (And.left (by assumption)) hb1; have d0 := bget hb2 y2 d0; have d1 := bget hb2 y2 d1; clear hb1))
      go_wp2_with fail
      go_ret
      exact ⟨by simp, below_next hB (below_next hWr hb2)⟩
set_option maxHeartbeats 8000000 in
set_option maxRecDepth 100000 in
theorem walk1 (n : Nat) (hn : 1 ≤ n) (hn2 : n ≤ 4096) (a2 a3 a4 a5 : Int) (w : World) :
    Calls Try.prog 3 #[.int .i64 n, .int .i64 1, .int .u32 a2, .int .u32 a3, .int .u32 a4, .int .u32 a5] w fun e w' => e = .returned (.bool true) ∧ Below w.heap.size w w' := by
  have q1 : ¬ (n : Int) < 1 := by omega
  have q2 : ¬ 4096 < (n : Int) := by omega
  go_enter Try.func3, Try.ntmps3
  go_wp2_with (first | (go_at_call 12; go_in) | (go_at_call 63; go_in))
  go_region_held3 (fun W9 => W9.cell? ⟨w.heap.size + 1 + 1, 0, none⟩ = some (.int .u32 a2) ∧ W9.cell? ⟨w.heap.size + 1 + 1, 1, none⟩ = some (.int .u32 a3) ∧ W9.cell? ⟨w.heap.size + 1 + 1 + 1 + 1 + 1, 0, none⟩ = some (.int .u32 a4) ∧ W9.cell? ⟨w.heap.size + 1 + 1 + 1 + 1 + 1, 1, none⟩ = some (.int .u32 a5))
    (simp [go_sem])
    (first | (go_at_call 13; refine (litWord_at _ _ _ _ _).mono ?_; rintro e w' ⟨rfl, rfl⟩))
  go_wp2_with (go_at_call 13; refine (litWord_at _ _ _ _ _).mono ?_; rintro e w' ⟨rfl, rfl⟩)
  refine wp_gen (fun W => Below w.heap.size w W ∧ PosIs Try.prog 14 (w.heap.size + 1 + 1 + 1 + 1 + 1 + 1 + 1 + 1 + 1 + 1 + 1) a2 a3 W ∧ W.cell? ⟨w.heap.size + 1 + 1, 0, none⟩ = some (.int .u32 a2) ∧ W.cell? ⟨w.heap.size + 1 + 1, 1, none⟩ = some (.int .u32 a3) ∧ W.cell? ⟨w.heap.size + 1 + 1 + 1 + 1 + 1, 0, none⟩ = some (.int .u32 a4) ∧ W.cell? ⟨w.heap.size + 1 + 1 + 1 + 1 + 1, 1, none⟩ = some (.int .u32 a5) ∧ w.heap.size + 1 + 1 + 1 + 1 + 1 < W.heap.size ∧ w.heap.size + 1 + 1 + 1 + 1 + 1 + 1 + 1 + 1 + 1 + 1 + 1 < W.heap.size) ⟨by go_grown, (binArEnd_TWord (w.heap.size + 1 + 1 + 1 + 1 + 1 + 1 + 1 + 1 + 1 + 1 + 1) (w.heap.size + 1 + 1 + 1 + 1 + 1 + 1 + 1 + 1 + 1 + 1 + 1 + 1 + 1 + 1 + 1) a2 a3 _ (by simp [go_sem]) (by simp) (wordEnd_is (w.heap.size + 1 + 1 + 1 + 1 + 1 + 1 + 1 + 1 + 1 + 1 + 1 + 1 + 1 + 1 + 1) (w.heap.size + 1 + 1 + 1 + 1 + 1 + 1 + 1 + 1 + 1 + 1 + 1 + 1 + 1 + 1) (w.heap.size + 1 + 1 + 1 + 1 + 1 + 1 + 1 + 1 + 1 + 1 + 1 + 1 + 1) 2 2 a2 a3 _ (by omega) (by omega) (by simp [go_sem]) (by simp [go_sem]) (by simp) (by simp) (litEnd_is (w.heap.size + 1 + 1 + 1 + 1 + 1 + 1 + 1 + 1 + 1 + 1 + 1 + 1 + 1) a2 a3 _ (by simp [go_sem]) (by simp [go_sem]) (by simp)))), (by simp [go_sem]), (by simp [go_sem]), (by simp [go_sem]), (by simp [go_sem]), by simp, by simp⟩ ?_
  rintro W ⟨hB, hP, c0, c1, c2, c3, z0, z1⟩
  have HP := Lib.hid hP
  have z2 : w.heap.size + 1 + 1 < W.heap.size := by omega
  clear hP
  go_loopw [15, 16] (fun b i wr => Rel W n a2 a3 b i wr) (fun _ i _ => n - (intOf i).toNat)
  case atStart => exact ⟨1, w.heap.size + 1 + 1 + 1 + 1 + 1 + 1 + 1 + 1 + 1 + 1 + 1, by omega, hn, rfl, rfl, Below.refl _ _, HP.out, z1⟩
  case round =>
    obtain ⟨k, c, hk1, hk2, rfl, rfl, hWr, hPr, hcz⟩ := hrel
    have HPr := Lib.hid hPr
    have hWz := hWr.size
    have d0 := bget hWr z2 c0
    have d1 := bget hWr z2 c1
    have d2 := bget hWr z0 c2
    have d3 := bget hWr z0 c3
    have y0 : w.heap.size + 1 + 1 + 1 + 1 + 1 < wr.heap.size := Nat.lt_of_lt_of_le z0 hWr.size
    have y2 : w.heap.size + 1 + 1 < wr.heap.size := Nat.lt_of_lt_of_le z2 hWr.size
    clear hPr c0 c1 c2 c3 HP z1
    by_cases hlt : k < n
    · have v1 : (k : Int) < (n : Int) := by omega
      go_wp2_with fail
      go_region_held3 (fun W9 => W9.cell? ⟨w.heap.size + 1 + 1, 0, none⟩ = some (.int .u32 a2) ∧ W9.cell? ⟨w.heap.size + 1 + 1, 1, none⟩ = some (.int .u32 a3) ∧ W9.cell? ⟨w.heap.size + 1 + 1 + 1 + 1 + 1, 0, none⟩ = some (.int .u32 a4) ∧ W9.cell? ⟨w.heap.size + 1 + 1 + 1 + 1 + 1, 1, none⟩ = some (.int .u32 a5))
        (exact keep4 (by go_grown) y2 y0 d0 d1 d2 d3)
        (first | (go_at_call 13; refine (litWord_at _ _ _ _ _).mono ?_; rintro e w' ⟨rfl, rfl⟩))
      go_wp2_with fail
      go_roundw
      case rel => exact ⟨k + 1, wr.heap.size + 1 + 1 + 1 + 1 + 1, by omega, by omega, by go_num, rfl, by go_grown, binArEnd_TBinAr _ c a2 a3 _ (by simp [go_sem]) (by simp) (HPr.out.grow (by go_grown)), by simp⟩
      case measure => simp [intOf]; omega
    · obtain rfl : k = n := by omega
      have v1 : ¬ (k : Int) < (k : Int) := by omega
      go_wp2_with fail
      go_region_held3 (fun W9 => Below wr.heap.size wr W9 ∧ W9.cell? ⟨w.heap.size + 1 + 1, 0, none⟩ = some (.int .u32 a2) ∧ W9.cell? ⟨w.heap.size + 1 + 1, 1, none⟩ = some (.int .u32 a3))
        (first | exact ⟨below_drew _, d0, d1⟩ | exact ⟨by assumption, by assumption, by assumption⟩)
        (first | (go_at_call 14; refine (HPr.out _ (And.left (by assumption))).mono ?_; rintro e w1 ⟨rfl, hb1⟩; have hb2 := below_next (And.left (by assumption)) hb1; have d0 := bget hb2 y2 d0; have d1 := bget hb2 y2 d1; clear hb1))
      go_wp2_with fail
      go_ret
      exact ⟨by simp, below_next hB (below_next hWr hb2)⟩
set_option maxHeartbeats 8000000 in
set_option maxRecDepth 100000 in
theorem walk2 (n : Nat) (hn : 1 ≤ n) (hn2 : n ≤ 4096) (a2 a3 a4 a5 : Int) (w : World) :
    Calls Try.prog 3 #[.int .i64 n, .int .i64 2, .int .u32 a2, .int .u32 a3, .int .u32 a4, .int .u32 a5] w fun e w' => e = .returned (.bool true) ∧ Below w.heap.size w w' := by
  have q1 : ¬ (n : Int) < 1 := by omega
  have q2 : ¬ 4096 < (n : Int) := by omega
  go_enter Try.func3, Try.ntmps3
  go_wp2_with (first | (go_at_call 12; go_in) | (go_at_call 63; go_in))
  go_region_held3 (fun W9 => W9.cell? ⟨w.heap.size + 1 + 1, 0, none⟩ = some (.int .u32 a2) ∧ W9.cell? ⟨w.heap.size + 1 + 1, 1, none⟩ = some (.int .u32 a3) ∧ W9.cell? ⟨w.heap.size + 1 + 1 + 1 + 1 + 1, 0, none⟩ = some (.int .u32 a4) ∧ W9.cell? ⟨w.heap.size + 1 + 1 + 1 + 1 + 1, 1, none⟩ = some (.int .u32 a5))
    (simp [go_sem])
    (first | (go_at_call 13; refine (litWord_at _ _ _ _ _).mono ?_; rintro e w' ⟨rfl, rfl⟩))
  go_wp2_with (go_at_call 13; refine (litWord_at _ _ _ _ _).mono ?_; rintro e w' ⟨rfl, rfl⟩)
  go_region_held3 (fun W9 => W9.cell? ⟨w.heap.size + 1 + 1, 0, none⟩ = some (.int .u32 a2) ∧ W9.cell? ⟨w.heap.size + 1 + 1, 1, none⟩ = some (.int .u32 a3) ∧ W9.cell? ⟨w.heap.size + 1 + 1 + 1 + 1 + 1, 0, none⟩ = some (.int .u32 a4) ∧ W9.cell? ⟨w.heap.size + 1 + 1 + 1 + 1 + 1, 1, none⟩ = some (.int .u32 a5))
    (simp [go_sem])
    (first | (go_at_call 13; refine (litWord_at _ _ _ _ _).mono ?_; rintro e w' ⟨rfl, rfl⟩))
  go_wp2_with fail
  refine wp_gen (fun W => Below w.heap.size w W ∧ PosIs Try.prog 14 (w.heap.size + 1 + 1 + 1 + 1 + 1 + 1 + 1 + 1 + 1 + 1 + 1) a2 a3 W ∧ W.cell? ⟨w.heap.size + 1 + 1, 0, none⟩ = some (.int .u32 a2) ∧ W.cell? ⟨w.heap.size + 1 + 1, 1, none⟩ = some (.int .u32 a3) ∧ W.cell? ⟨w.heap.size + 1 + 1 + 1 + 1 + 1, 0, none⟩ = some (.int .u32 a4) ∧ W.cell? ⟨w.heap.size + 1 + 1 + 1 + 1 + 1, 1, none⟩ = some (.int .u32 a5) ∧ w.heap.size + 1 + 1 + 1 + 1 + 1 < W.heap.size ∧ w.heap.size + 1 + 1 + 1 + 1 + 1 + 1 + 1 + 1 + 1 + 1 + 1 < W.heap.size) ⟨by go_grown, (binArEnd_TUnAr (w.heap.size + 1 + 1 + 1 + 1 + 1 + 1 + 1 + 1 + 1 + 1 + 1) (w.heap.size + 1 + 1 + 1 + 1 + 1 + 1 + 1 + 1 + 1 + 1 + 1 + 1 + 1 + 1 + 1 + 1 + 1) a2 a3 _ (by simp [go_sem]) (by simp) (unArEnd_TWord (w.heap.size + 1 + 1 + 1 + 1 + 1 + 1 + 1 + 1 + 1 + 1 + 1 + 1 + 1 + 1 + 1 + 1 + 1) (w.heap.size + 1 + 1 + 1 + 1 + 1 + 1 + 1 + 1 + 1 + 1 + 1 + 1 + 1 + 1 + 1 + 1) a2 a3 _ (by simp [go_sem]) (by simp [go_sem]) (by simp) (wordEnd_is (w.heap.size + 1 + 1 + 1 + 1 + 1 + 1 + 1 + 1 + 1 + 1 + 1 + 1 + 1 + 1 + 1 + 1) (w.heap.size + 1 + 1 + 1 + 1 + 1 + 1 + 1 + 1 + 1 + 1 + 1 + 1 + 1 + 1 + 1) (w.heap.size + 1 + 1 + 1 + 1 + 1 + 1 + 1 + 1 + 1 + 1 + 1 + 1 + 1 + 1) 1 1 a2 a3 _ (by omega) (by omega) (by simp [go_sem]) (by simp [go_sem]) (by simp) (by simp) (litEnd_is (w.heap.size + 1 + 1 + 1 + 1 + 1 + 1 + 1 + 1 + 1 + 1 + 1 + 1 + 1 + 1) a2 a3 _ (by simp [go_sem]) (by simp [go_sem]) (by simp))))), (by simp [go_sem]), (by simp [go_sem]), (by simp [go_sem]), (by simp [go_sem]), by simp, by simp⟩ ?_
  rintro W ⟨hB, hP, c0, c1, c2, c3, z0, z1⟩
  have HP := Lib.hid hP
  have z2 : w.heap.size + 1 + 1 < W.heap.size := by omega
  clear hP
  go_loopw [15, 16] (fun b i wr => Rel W n a2 a3 b i wr) (fun _ i _ => n - (intOf i).toNat)
  case atStart => exact ⟨1, w.heap.size + 1 + 1 + 1 + 1 + 1 + 1 + 1 + 1 + 1 + 1 + 1, by omega, hn, rfl, rfl, Below.refl _ _, HP.out, z1⟩
  case round =>
    obtain ⟨k, c, hk1, hk2, rfl, rfl, hWr, hPr, hcz⟩ := hrel
    have HPr := Lib.hid hPr
    have hWz := hWr.size
    have d0 := bget hWr z2 c0
    have d1 := bget hWr z2 c1
    have d2 := bget hWr z0 c2
    have d3 := bget hWr z0 c3
    have y0 : w.heap.size + 1 + 1 + 1 + 1 + 1 < wr.heap.size := Nat.lt_of_lt_of_le z0 hWr.size
    have y2 : w.heap.size + 1 + 1 < wr.heap.size := Nat.lt_of_lt_of_le z2 hWr.size
    clear hPr c0 c1 c2 c3 HP z1
    by_cases hlt : k < n
    · have v1 : (k : Int) < (n : Int) := by omega
      go_wp2_with fail
      go_region_held3 (fun W9 => W9.cell? ⟨w.heap.size + 1 + 1, 0, none⟩ = some (.int .u32 a2) ∧ W9.cell? ⟨w.heap.size + 1 + 1, 1, none⟩ = some (.int .u32 a3) ∧ W9.cell? ⟨w.heap.size + 1 + 1 + 1 + 1 + 1, 0, none⟩ = some (.int .u32 a4) ∧ W9.cell? ⟨w.heap.size + 1 + 1 + 1 + 1 + 1, 1, none⟩ = some (.int .u32 a5))
        (exact keep4 (by go_grown) y2 y0 d0 d1 d2 d3)
        (first | (go_at_call 13; refine (litWord_at _ _ _ _ _).mono ?_; rintro e w' ⟨rfl, rfl⟩))
      go_wp2_with fail
      go_roundw
      case rel => exact ⟨k + 1, wr.heap.size + 1 + 1 + 1 + 1 + 1, by omega, by omega, by go_num, rfl, by go_grown, binArEnd_TBinAr _ c a2 a3 _ (by simp [go_sem]) (by simp) (HPr.out.grow (by go_grown)), by simp⟩
      case measure => simp [intOf]; omega
    · obtain rfl : k = n := by omega
      have v1 : ¬ (k : Int) < (k : Int) := by omega
      go_wp2_with fail
      go_region_held3 (fun W9 => Below wr.heap.size wr W9 ∧ W9.cell? ⟨w.heap.size + 1 + 1, 0, none⟩ = some (.int .u32 a2) ∧ W9.cell? ⟨w.heap.size + 1 + 1, 1, none⟩ = some (.int .u32 a3))
        (first | exact ⟨below_drew _, d0, d1⟩ | exact ⟨by assumption, by assumption, by assumption⟩)
        (first | (go_at_call 14; refine (HPr.out _ (And.left (by assumption))).mono ?_; rintro e w1 ⟨rfl, hb1⟩; have hb2 := below_next (And.left (by assumption)) hb1; have d0 := bget hb2 y2 d0; have d1 := bget hb2 y2 d1; clear hb1))
      go_wp2_with fail
      go_ret
      exact ⟨by simp, below_next hB (below_next hWr hb2)⟩
set_option maxHeartbeats 8000000 in
set_option maxRecDepth 100000 in
theorem walk3 (n : Nat) (hn : 1 ≤ n) (hn2 : n ≤ 4096) (a2 a3 a4 a5 : Int) (w : World) :
    Calls Try.prog 3 #[.int .i64 n, .int .i64 3, .int .u32 a2, .int .u32 a3, .int .u32 a4, .int .u32 a5] w fun e w' => e = .returned (.bool true) ∧ Below w.heap.size w w' := by
  have q1 : ¬ (n : Int) < 1 := by omega
  have q2 : ¬ 4096 < (n : Int) := by omega
  go_enter Try.func3, Try.ntmps3
  go_wp2_with (first | (go_at_call 12; go_in) | (go_at_call 63; go_in))
  go_region_held3 (fun W9 => W9.cell? ⟨w.heap.size + 1 + 1, 0, none⟩ = some (.int .u32 a2) ∧ W9.cell? ⟨w.heap.size + 1 + 1, 1, none⟩ = some (.int .u32 a3) ∧ W9.cell? ⟨w.heap.size + 1 + 1 + 1 + 1 + 1, 0, none⟩ = some (.int .u32 a4) ∧ W9.cell? ⟨w.heap.size + 1 + 1 + 1 + 1 + 1, 1, none⟩ = some (.int .u32 a5))
    (simp [go_sem])
    (first | (go_at_call 13; refine (litWord_at _ _ _ _ _).mono ?_; rintro e w' ⟨rfl, rfl⟩))
  go_wp2_with (go_at_call 13; refine (litWord_at _ _ _ _ _).mono ?_; rintro e w' ⟨rfl, rfl⟩)
  go_region_held3 (fun W9 => W9.cell? ⟨w.heap.size + 1 + 1, 0, none⟩ = some (.int .u32 a2) ∧ W9.cell? ⟨w.heap.size + 1 + 1, 1, none⟩ = some (.int .u32 a3) ∧ W9.cell? ⟨w.heap.size + 1 + 1 + 1 + 1 + 1, 0, none⟩ = some (.int .u32 a4) ∧ W9.cell? ⟨w.heap.size + 1 + 1 + 1 + 1 + 1, 1, none⟩ = some (.int .u32 a5))
    (simp [go_sem])
    (first | (go_at_call 13; refine (litWord_at _ _ _ _ _).mono ?_; rintro e w' ⟨rfl, rfl⟩))
  go_wp2_with fail
  refine wp_gen (fun W => Below w.heap.size w W ∧ PosIs Try.prog 14 (w.heap.size + 1 + 1 + 1 + 1 + 1 + 1 + 1 + 1 + 1 + 1 + 1) a2 a3 W ∧ W.cell? ⟨w.heap.size + 1 + 1, 0, none⟩ = some (.int .u32 a2) ∧ W.cell? ⟨w.heap.size + 1 + 1, 1, none⟩ = some (.int .u32 a3) ∧ W.cell? ⟨w.heap.size + 1 + 1 + 1 + 1 + 1, 0, none⟩ = some (.int .u32 a4) ∧ W.cell? ⟨w.heap.size + 1 + 1 + 1 + 1 + 1, 1, none⟩ = some (.int .u32 a5) ∧ w.heap.size + 1 + 1 + 1 + 1 + 1 < W.heap.size ∧ w.heap.size + 1 + 1 + 1 + 1 + 1 + 1 + 1 + 1 + 1 + 1 + 1 < W.heap.size) ⟨by go_grown, (binArEnd_TBinAr (w.heap.size + 1 + 1 + 1 + 1 + 1 + 1 + 1 + 1 + 1 + 1 + 1) (w.heap.size + 1 + 1 + 1 + 1 + 1 + 1 + 1 + 1 + 1 + 1 + 1 + 1 + 1 + 1 + 1 + 1 + 1 + 1 + 1 + 1 + 1 + 1) a2 a3 _ (by simp [go_sem]) (by simp) (binArEnd_TWord (w.heap.size + 1 + 1 + 1 + 1 + 1 + 1 + 1 + 1 + 1 + 1 + 1 + 1 + 1 + 1 + 1 + 1 + 1 + 1 + 1 + 1 + 1 + 1) (w.heap.size + 1 + 1 + 1 + 1 + 1 + 1 + 1 + 1 + 1 + 1 + 1 + 1 + 1 + 1 + 1 + 1 + 1 + 1 + 1 + 1 + 1) a2 a3 _ (by simp [go_sem]) (by simp) (wordEnd_is (w.heap.size + 1 + 1 + 1 + 1 + 1 + 1 + 1 + 1 + 1 + 1 + 1 + 1 + 1 + 1 + 1 + 1 + 1 + 1 + 1 + 1 + 1) (w.heap.size + 1 + 1 + 1 + 1 + 1 + 1 + 1 + 1 + 1 + 1 + 1 + 1 + 1 + 1 + 1 + 1 + 1 + 1 + 1 + 1) (w.heap.size + 1 + 1 + 1 + 1 + 1 + 1 + 1 + 1 + 1 + 1 + 1 + 1 + 1 + 1 + 1 + 1 + 1 + 1 + 1) 1 1 a2 a3 _ (by omega) (by omega) (by simp [go_sem]) (by simp [go_sem]) (by simp) (by simp) (litEnd_is (w.heap.size + 1 + 1 + 1 + 1 + 1 + 1 + 1 + 1 + 1 + 1 + 1 + 1 + 1 + 1 + 1 + 1 + 1 + 1 + 1) a2 a3 _ (by simp [go_sem]) (by simp [go_sem]) (by simp))))), (by simp [go_sem]), (by simp [go_sem]), (by simp [go_sem]), (by simp [go_sem]), by simp, by simp⟩ ?_
  rintro W ⟨hB, hP, c0, c1, c2, c3, z0, z1⟩
  have HP := Lib.hid hP
  have z2 : w.heap.size + 1 + 1 < W.heap.size := by omega
  clear hP
  go_loopw [15, 16] (fun b i wr => Rel W n a2 a3 b i wr) (fun _ i _ => n - (intOf i).toNat)
  case atStart => exact ⟨1, w.heap.size + 1 + 1 + 1 + 1 + 1 + 1 + 1 + 1 + 1 + 1 + 1, by omega, hn, rfl, rfl, Below.refl _ _, HP.out, z1⟩
  case round =>
    obtain ⟨k, c, hk1, hk2, rfl, rfl, hWr, hPr, hcz⟩ := hrel
    have HPr := Lib.hid hPr
    have hWz := hWr.size
    have d0 := bget hWr z2 c0
    have d1 := bget hWr z2 c1
    have d2 := bget hWr z0 c2
    have d3 := bget hWr z0 c3
    have y0 : w.heap.size + 1 + 1 + 1 + 1 + 1 < wr.heap.size := Nat.lt_of_lt_of_le z0 hWr.size
    have y2 : w.heap.size + 1 + 1 < wr.heap.size := Nat.lt_of_lt_of_le z2 hWr.size
    clear hPr c0 c1 c2 c3 HP z1
    by_cases hlt : k < n
    · have v1 : (k : Int) < (n : Int) := by omega
      go_wp2_with fail
      go_region_held3 (fun W9 => W9.cell? ⟨w.heap.size + 1 + 1, 0, none⟩ = some (.int .u32 a2) ∧ W9.cell? ⟨w.heap.size + 1 + 1, 1, none⟩ = some (.int .u32 a3) ∧ W9.cell? ⟨w.heap.size + 1 + 1 + 1 + 1 + 1, 0, none⟩ = some (.int .u32 a4) ∧ W9.cell? ⟨w.heap.size + 1 + 1 + 1 + 1 + 1, 1, none⟩ = some (.int .u32 a5))
        (exact keep4 (by go_grown) y2 y0 d0 d1 d2 d3)
        (first | (go_at_call 13; refine (litWord_at _ _ _ _ _).mono ?_; rintro e w' ⟨rfl, rfl⟩))
      go_wp2_with fail
      go_roundw
      case rel => exact ⟨k + 1, wr.heap.size + 1 + 1 + 1 + 1 + 1, by omega, by omega, by go_num, rfl, by go_grown, binArEnd_TBinAr _ c a2 a3 _ (by simp [go_sem]) (by simp) (HPr.out.grow (by go_grown)), by simp⟩
      case measure => simp [intOf]; omega
    · obtain rfl : k = n := by omega
      have v1 : ¬ (k : Int) < (k : Int) := by omega
      go_wp2_with fail
      go_region_held3 (fun W9 => Below wr.heap.size wr W9 ∧ W9.cell? ⟨w.heap.size + 1 + 1, 0, none⟩ = some (.int .u32 a2) ∧ W9.cell? ⟨w.heap.size + 1 + 1, 1, none⟩ = some (.int .u32 a3))
        (first | exact ⟨below_drew _, d0, d1⟩ | exact ⟨by assumption, by assumption, by assumption⟩)
        (first | (go_at_call 14; refine (HPr.out _ (And.left (by assumption))).mono ?_; rintro e w1 ⟨rfl, hb1⟩; have hb2 := below_next (And.left (by assumption)) hb1; have d0 := bget hb2 y2 d0; have d1 := bget hb2 y2 d1; clear hb1))
      go_wp2_with fail
      go_ret
      exact ⟨by simp, below_next hB (below_next hWr hb2)⟩

set_option maxHeartbeats 4000000 in
set_option maxRecDepth 100000 in
theorem walk (a0 : Int) (a1 : Int) (a2 : Int) (a3 : Int) (a4 : Int) (a5 : Int) (w : World) (w0 : (Lit.int .i64 a0).wf = true) (w1 : (Lit.int .i64 a1).wf = true) (w2 : (Lit.int .u32 a2).wf = true) (w3 : (Lit.int .u32 a3).wf = true) (w4 : (Lit.int .u32 a4).wf = true) (w5 : (Lit.int .u32 a5).wf = true) :
    Calls Try.prog 3 #[.int .i64 a0, .int .i64 a1, .int .u32 a2, .int .u32 a3, .int .u32 a4, .int .u32 a5] w fun e w' => e = .returned (.bool true) ∧ Below w.heap.size w w' := by
  have b0 := bounds_i64 w0
  have b1 := bounds_i64 w1
  have b2 := bounds_u32 w2
  have b3 := bounds_u32 w3
  have b4 := bounds_u32 w4
  have b5 := bounds_u32 w5
  clear w0 w1 w2 w3 w4 w5
  by_cases h0 : a0 < 1
  · go_enter Try.func3, Try.ntmps3
    go_wp2
    go_ret
    exact ⟨rfl, by go_grown⟩
  by_cases h1 : 4096 < a0
  · go_enter Try.func3, Try.ntmps3
    go_wp2
    go_ret
    exact ⟨rfl, by go_grown⟩
  by_cases h2 : a1 < 0
  · go_enter Try.func3, Try.ntmps3
    go_wp2
    go_ret
    exact ⟨rfl, by go_grown⟩
  by_cases h3 : 3 < a1
  · go_enter Try.func3, Try.ntmps3
    go_wp2
    go_ret
    exact ⟨rfl, by go_grown⟩
  obtain ⟨n, rfl⟩ : ∃ n : Nat, a0 = (n : Int) := Int.eq_ofNat_of_zero_le (by omega)
  have hk : a1 = 0 ∨ a1 = 1 ∨ a1 = 2 ∨ a1 = 3 := by omega
  rcases hk with rfl | rfl | rfl | rfl
  · exact walk0 n (by omega) (by omega) _ _ _ _ _
  · exact walk1 n (by omega) (by omega) _ _ _ _ _
  · exact walk2 n (by omega) (by omega) _ _ _ _ _
  · exact walk3 n (by omega) (by omega) _ _ _ _ _
end Go.Proofs.Ytimfajlnlfaffaa.fnBinaryArithmEndIsRightmostEnd
