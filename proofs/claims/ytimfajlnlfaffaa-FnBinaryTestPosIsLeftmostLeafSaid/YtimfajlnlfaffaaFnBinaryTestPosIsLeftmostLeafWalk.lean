/- The walk of FnBinaryTestPosIsLeftmostLeaf: the Go text returns true. Conditions: none beyond the kinds. -/
import Derived.Test.YtimfajlnlfaffaaNodeEnd
import Derived.Deep.RegionHeld3
namespace Go.Proofs.Ytimfajlnlfaffaa.fnBinaryTestPosIsLeftmostLeaf
open Go.RowKit
set_option linter.unusedVariables false

/-- at the head of round k: the chain's outermost node lies at block c and starts at (a2, a3) -/
def Rel (W : World) (n : Nat) (a2 a3 : Int) (b i : Value) (wr : World) : Prop :=
  ∃ k c : Nat, 1 ≤ k ∧ k ≤ n ∧ i = .int .i64 k ∧ b = .pointer (some ⟨c, 0, none⟩) ∧ Below W.heap.size W wr ∧ PosIs Try.prog 26 c a2 a3 wr ∧ c < wr.heap.size

set_option maxHeartbeats 8000000 in
set_option maxRecDepth 100000 in
theorem walk0 (n : Nat) (hn : 1 ≤ n) (hn2 : n ≤ 4096) (a2 a3 a4 a5 : Int) (a6 : ByteArray) (w : World) (hs : a6.size ≤ 1048576) (r2 : (a2 == 4294967285) = true ∨ a2 ≤ 4294967284) (r4 : (a4 == 4294967285) = true ∨ a4 ≤ 4294967284) :
    Calls Try.prog 5 #[.int .i64 n, .int .i64 0, .int .u32 a2, .int .u32 a3, .int .u32 a4, .int .u32 a5, .string a6] w fun e w' => e = .returned (.bool true) ∧ Below w.heap.size w w' := by
  have q1 : ¬ (n : Int) < 1 := by omega
  have q2 : ¬ 4096 < (n : Int) := by omega
  have q3 : ¬ 1048576 < (a6.size : Int) := by omega
  have q4 : ¬ 1048576 < a6.size := by omega
  have e2 : (a2 == 4294967285) = true ∧ ¬ a2 ≤ 4294967284 ∨ a2 ≤ 4294967284 := by by_cases h : a2 ≤ 4294967284 <;> simp_all
  have e4 : (a4 == 4294967285) = true ∧ ¬ a4 ≤ 4294967284 ∨ a4 ≤ 4294967284 := by by_cases h : a4 ≤ 4294967284 <;> simp_all
  clear r2 r4
  rcases e2 with ⟨r2, r3⟩ | r2
  all_goals
    rcases e4 with ⟨r4, r5⟩ | r4
    all_goals
      go_enter Try.func5, Try.ntmps5
      go_wp2_with (first | (go_at_call 16; go_in) | (go_at_call 17; go_in) | (go_at_call 18; go_in) | (go_at_call 19; go_in) | (go_at_call 20; go_in) | (go_at_call 21; go_in) | (go_at_call 22; go_in) | (go_at_call 23; go_in) | (go_at_call 24; go_in) | (go_at_call 25; go_in))
      go_region_held3 (fun W9 => W9.cell? ⟨w.heap.size + 1, 0, none⟩ = some (.int .u32 a2) ∧ W9.cell? ⟨w.heap.size + 1, 1, none⟩ = some (.int .u32 a3) ∧ W9.cell? ⟨w.heap.size + 1 + 1 + 1, 0, none⟩ = some (.int .u32 a4) ∧ W9.cell? ⟨w.heap.size + 1 + 1 + 1, 1, none⟩ = some (.int .u32 a5))
        (simp [go_sem])
        (first | (go_at_call 16; go_in) | (go_at_call 17; go_in) | (go_at_call 18; go_in) | (go_at_call 19; go_in) | (go_at_call 20; go_in) | (go_at_call 21; go_in) | (go_at_call 22; go_in) | (go_at_call 23; go_in) | (go_at_call 24; go_in) | (go_at_call 25; go_in))
      go_wp2_with fail
      refine wp_gen (fun W => Below w.heap.size w W ∧ PosIs Try.prog 26 (w.heap.size + 1 + 1 + 1 + 1 + 1 + 1 + 1 + 1 + 1 + 1 + 1 + 1 + 1 + 1 + 1) a2 a3 W ∧ W.cell? ⟨w.heap.size + 1, 0, none⟩ = some (.int .u32 a2) ∧ W.cell? ⟨w.heap.size + 1, 1, none⟩ = some (.int .u32 a3) ∧ W.cell? ⟨w.heap.size + 1 + 1 + 1, 0, none⟩ = some (.int .u32 a4) ∧ W.cell? ⟨w.heap.size + 1 + 1 + 1, 1, none⟩ = some (.int .u32 a5) ∧ w.heap.size + 1 + 1 + 1 < W.heap.size ∧ w.heap.size + 1 + 1 + 1 + 1 + 1 + 1 + 1 + 1 + 1 + 1 + 1 + 1 + 1 + 1 + 1 < W.heap.size) ⟨by go_grown, (binTestPos_TWord (w.heap.size + 1 + 1 + 1 + 1 + 1 + 1 + 1 + 1 + 1 + 1 + 1 + 1 + 1 + 1 + 1) (w.heap.size + 1 + 1 + 1 + 1 + 1 + 1 + 1 + 1 + 1 + 1 + 1 + 1 + 1) a2 a3 _ (by simp [go_sem]) (by simp) (wordPos_is (w.heap.size + 1 + 1 + 1 + 1 + 1 + 1 + 1 + 1 + 1 + 1 + 1 + 1 + 1) (w.heap.size + 1 + 1 + 1 + 1 + 1 + 1 + 1 + 1 + 1 + 1 + 1 + 1) (w.heap.size + 1 + 1 + 1 + 1 + 1 + 1 + 1 + 1 + 1 + 1 + 1) 1 1 a2 a3 _ (by omega) (by simp [go_sem]) (by simp [go_sem]) (by simp) (by simp) (litPos_is (w.heap.size + 1 + 1 + 1 + 1 + 1 + 1 + 1 + 1 + 1 + 1 + 1) a2 a3 _ (by simp [go_sem]) (by simp [go_sem]) (by simp)))), (by simp [go_sem]), (by simp [go_sem]), (by simp [go_sem]), (by simp [go_sem]), by simp, by simp⟩ ?_
      rintro W ⟨hB, hP, c0, c1, c2, c3, z0, z1⟩
      have HP := Lib.hid hP
      have z2 : w.heap.size + 1 < W.heap.size := by omega
      clear hP
      go_loopw [18, 19] (fun b i wr => Rel W n a2 a3 b i wr) (fun _ i _ => n - (intOf i).toNat)
      case atStart => exact ⟨1, w.heap.size + 1 + 1 + 1 + 1 + 1 + 1 + 1 + 1 + 1 + 1 + 1 + 1 + 1 + 1 + 1, by omega, hn, rfl, rfl, Below.refl _ _, HP.out, z1⟩
      case round =>
        obtain ⟨k, c, hk1, hk2, rfl, rfl, hWr, hPr, hcz⟩ := hrel
        have HPr := Lib.hid hPr
        have hWz := hWr.size
        have d0 := bget hWr z2 c0
        have d1 := bget hWr z2 c1
        have d2 := bget hWr z0 c2
        have d3 := bget hWr z0 c3
        have y0 : w.heap.size + 1 + 1 + 1 < wr.heap.size := Nat.lt_of_lt_of_le z0 hWr.size
        have y2 : w.heap.size + 1 < wr.heap.size := Nat.lt_of_lt_of_le z2 hWr.size
        clear hPr c0 c1 c2 c3 HP z1
        by_cases hlt : k < n
        · have v1 : (k : Int) < (n : Int) := by omega
          go_wp2_with (first | (go_at_call 25; go_in))
          go_roundw
          case rel => exact ⟨k + 1, wr.heap.size + 1, by omega, by omega, by go_num, rfl, by go_grown, binTestPos_TBinTest _ c a2 a3 _ (by simp [go_sem]) (by simp) (HPr.out.grow (by go_grown)), by simp⟩
          case measure => simp [intOf]; omega
        · obtain rfl : k = n := by omega
          have v1 : ¬ (k : Int) < (k : Int) := by omega
          go_wp2_with fail
          go_region_held3 (fun W9 => Below wr.heap.size wr W9 ∧ W9.cell? ⟨w.heap.size + 1, 0, none⟩ = some (.int .u32 a2) ∧ W9.cell? ⟨w.heap.size + 1, 1, none⟩ = some (.int .u32 a3))
            (first | exact ⟨below_drew _, d0, d1⟩ | exact ⟨by assumption, by assumption, by assumption⟩)
            (first | (go_at_call 26; refine (HPr.out _ (And.left (by assumption))).mono ?_; rintro e w1 ⟨rfl, hb1⟩; have hb2 := below_next (And.left (by assumption)) hb1; have d0 := bget hb2 y2 d0; have d1 := bget hb2 y2 d1; clear hb1))
          go_wp2_with fail
          go_ret
          exact ⟨by simp, below_next hB (below_next hWr hb2)⟩
set_option maxHeartbeats 8000000 in
set_option maxRecDepth 100000 in
theorem walk1 (n : Nat) (hn : 1 ≤ n) (hn2 : n ≤ 4096) (a2 a3 a4 a5 : Int) (a6 : ByteArray) (w : World) (hs : a6.size ≤ 1048576) (r2 : (a2 == 4294967285) = true ∨ a2 ≤ 4294967284) (r4 : (a4 == 4294967285) = true ∨ a4 ≤ 4294967284) :
    Calls Try.prog 5 #[.int .i64 n, .int .i64 1, .int .u32 a2, .int .u32 a3, .int .u32 a4, .int .u32 a5, .string a6] w fun e w' => e = .returned (.bool true) ∧ Below w.heap.size w w' := by
  have q1 : ¬ (n : Int) < 1 := by omega
  have q2 : ¬ 4096 < (n : Int) := by omega
  have q3 : ¬ 1048576 < (a6.size : Int) := by omega
  have q4 : ¬ 1048576 < a6.size := by omega
  have e2 : (a2 == 4294967285) = true ∧ ¬ a2 ≤ 4294967284 ∨ a2 ≤ 4294967284 := by by_cases h : a2 ≤ 4294967284 <;> simp_all
  have e4 : (a4 == 4294967285) = true ∧ ¬ a4 ≤ 4294967284 ∨ a4 ≤ 4294967284 := by by_cases h : a4 ≤ 4294967284 <;> simp_all
  clear r2 r4
  rcases e2 with ⟨r2, r3⟩ | r2
  all_goals
    rcases e4 with ⟨r4, r5⟩ | r4
    all_goals
      go_enter Try.func5, Try.ntmps5
      go_wp2_with (first | (go_at_call 16; go_in) | (go_at_call 17; go_in) | (go_at_call 18; go_in) | (go_at_call 19; go_in) | (go_at_call 20; go_in) | (go_at_call 21; go_in) | (go_at_call 22; go_in) | (go_at_call 23; go_in) | (go_at_call 24; go_in) | (go_at_call 25; go_in))
      go_region_held3 (fun W9 => W9.cell? ⟨w.heap.size + 1, 0, none⟩ = some (.int .u32 a2) ∧ W9.cell? ⟨w.heap.size + 1, 1, none⟩ = some (.int .u32 a3) ∧ W9.cell? ⟨w.heap.size + 1 + 1 + 1, 0, none⟩ = some (.int .u32 a4) ∧ W9.cell? ⟨w.heap.size + 1 + 1 + 1, 1, none⟩ = some (.int .u32 a5))
        (simp [go_sem])
        (first | (go_at_call 16; go_in) | (go_at_call 17; go_in) | (go_at_call 18; go_in) | (go_at_call 19; go_in) | (go_at_call 20; go_in) | (go_at_call 21; go_in) | (go_at_call 22; go_in) | (go_at_call 23; go_in) | (go_at_call 24; go_in) | (go_at_call 25; go_in))
      go_wp2_with fail
      refine wp_gen (fun W => Below w.heap.size w W ∧ PosIs Try.prog 26 (w.heap.size + 1 + 1 + 1 + 1 + 1 + 1 + 1 + 1 + 1 + 1 + 1 + 1) a2 a3 W ∧ W.cell? ⟨w.heap.size + 1, 0, none⟩ = some (.int .u32 a2) ∧ W.cell? ⟨w.heap.size + 1, 1, none⟩ = some (.int .u32 a3) ∧ W.cell? ⟨w.heap.size + 1 + 1 + 1, 0, none⟩ = some (.int .u32 a4) ∧ W.cell? ⟨w.heap.size + 1 + 1 + 1, 1, none⟩ = some (.int .u32 a5) ∧ w.heap.size + 1 + 1 + 1 < W.heap.size ∧ w.heap.size + 1 + 1 + 1 + 1 + 1 + 1 + 1 + 1 + 1 + 1 + 1 + 1 < W.heap.size) ⟨by go_grown, (binTestPos_TUnTest (w.heap.size + 1 + 1 + 1 + 1 + 1 + 1 + 1 + 1 + 1 + 1 + 1 + 1) (w.heap.size + 1 + 1 + 1 + 1 + 1 + 1 + 1 + 1 + 1 + 1) a2 a3 _ (by simp [go_sem]) (by simp) (unTestPos_is (w.heap.size + 1 + 1 + 1 + 1 + 1 + 1 + 1 + 1 + 1 + 1) a2 a3 _ (by simp [go_sem]) (by simp [go_sem]) (by simp))), (by simp [go_sem]), (by simp [go_sem]), (by simp [go_sem]), (by simp [go_sem]), by simp, by simp⟩ ?_
      rintro W ⟨hB, hP, c0, c1, c2, c3, z0, z1⟩
      have HP := Lib.hid hP
      have z2 : w.heap.size + 1 < W.heap.size := by omega
      clear hP
      go_loopw [18, 19] (fun b i wr => Rel W n a2 a3 b i wr) (fun _ i _ => n - (intOf i).toNat)
      case atStart => exact ⟨1, w.heap.size + 1 + 1 + 1 + 1 + 1 + 1 + 1 + 1 + 1 + 1 + 1 + 1, by omega, hn, rfl, rfl, Below.refl _ _, HP.out, z1⟩
      case round =>
        obtain ⟨k, c, hk1, hk2, rfl, rfl, hWr, hPr, hcz⟩ := hrel
        have HPr := Lib.hid hPr
        have hWz := hWr.size
        have d0 := bget hWr z2 c0
        have d1 := bget hWr z2 c1
        have d2 := bget hWr z0 c2
        have d3 := bget hWr z0 c3
        have y0 : w.heap.size + 1 + 1 + 1 < wr.heap.size := Nat.lt_of_lt_of_le z0 hWr.size
        have y2 : w.heap.size + 1 < wr.heap.size := Nat.lt_of_lt_of_le z2 hWr.size
        clear hPr c0 c1 c2 c3 HP z1
        by_cases hlt : k < n
        · have v1 : (k : Int) < (n : Int) := by omega
          go_wp2_with (first | (go_at_call 25; go_in))
          go_roundw
          case rel => exact ⟨k + 1, wr.heap.size + 1, by omega, by omega, by go_num, rfl, by go_grown, binTestPos_TBinTest _ c a2 a3 _ (by simp [go_sem]) (by simp) (HPr.out.grow (by go_grown)), by simp⟩
          case measure => simp [intOf]; omega
        · obtain rfl : k = n := by omega
          have v1 : ¬ (k : Int) < (k : Int) := by omega
          go_wp2_with fail
          go_region_held3 (fun W9 => Below wr.heap.size wr W9 ∧ W9.cell? ⟨w.heap.size + 1, 0, none⟩ = some (.int .u32 a2) ∧ W9.cell? ⟨w.heap.size + 1, 1, none⟩ = some (.int .u32 a3))
            (first | exact ⟨below_drew _, d0, d1⟩ | exact ⟨by assumption, by assumption, by assumption⟩)
            (first | (go_at_call 26; refine (HPr.out _ (And.left (by assumption))).mono ?_; rintro e w1 ⟨rfl, hb1⟩; have hb2 := below_next (And.left (by assumption)) hb1; have d0 := bget hb2 y2 d0; have d1 := bget hb2 y2 d1; clear hb1))
          go_wp2_with fail
          go_ret
          exact ⟨by simp, below_next hB (below_next hWr hb2)⟩
set_option maxHeartbeats 8000000 in
set_option maxRecDepth 100000 in
theorem walk2 (n : Nat) (hn : 1 ≤ n) (hn2 : n ≤ 4096) (a2 a3 a4 a5 : Int) (a6 : ByteArray) (w : World) (hs : a6.size ≤ 1048576) (r2 : (a2 == 4294967285) = true ∨ a2 ≤ 4294967284) (r4 : (a4 == 4294967285) = true ∨ a4 ≤ 4294967284) :
    Calls Try.prog 5 #[.int .i64 n, .int .i64 2, .int .u32 a2, .int .u32 a3, .int .u32 a4, .int .u32 a5, .string a6] w fun e w' => e = .returned (.bool true) ∧ Below w.heap.size w w' := by
  have q1 : ¬ (n : Int) < 1 := by omega
  have q2 : ¬ 4096 < (n : Int) := by omega
  have q3 : ¬ 1048576 < (a6.size : Int) := by omega
  have q4 : ¬ 1048576 < a6.size := by omega
  have e2 : (a2 == 4294967285) = true ∧ ¬ a2 ≤ 4294967284 ∨ a2 ≤ 4294967284 := by by_cases h : a2 ≤ 4294967284 <;> simp_all
  have e4 : (a4 == 4294967285) = true ∧ ¬ a4 ≤ 4294967284 ∨ a4 ≤ 4294967284 := by by_cases h : a4 ≤ 4294967284 <;> simp_all
  clear r2 r4
  rcases e2 with ⟨r2, r3⟩ | r2
  all_goals
    rcases e4 with ⟨r4, r5⟩ | r4
    all_goals
      go_enter Try.func5, Try.ntmps5
      go_wp2_with (first | (go_at_call 16; go_in) | (go_at_call 17; go_in) | (go_at_call 18; go_in) | (go_at_call 19; go_in) | (go_at_call 20; go_in) | (go_at_call 21; go_in) | (go_at_call 22; go_in) | (go_at_call 23; go_in) | (go_at_call 24; go_in) | (go_at_call 25; go_in))
      go_region_held3 (fun W9 => W9.cell? ⟨w.heap.size + 1, 0, none⟩ = some (.int .u32 a2) ∧ W9.cell? ⟨w.heap.size + 1, 1, none⟩ = some (.int .u32 a3) ∧ W9.cell? ⟨w.heap.size + 1 + 1 + 1, 0, none⟩ = some (.int .u32 a4) ∧ W9.cell? ⟨w.heap.size + 1 + 1 + 1, 1, none⟩ = some (.int .u32 a5))
        (simp [go_sem])
        (first | (go_at_call 16; go_in) | (go_at_call 17; go_in) | (go_at_call 18; go_in) | (go_at_call 19; go_in) | (go_at_call 20; go_in) | (go_at_call 21; go_in) | (go_at_call 22; go_in) | (go_at_call 23; go_in) | (go_at_call 24; go_in) | (go_at_call 25; go_in))
      go_wp2_with fail
      refine wp_gen (fun W => Below w.heap.size w W ∧ PosIs Try.prog 26 (w.heap.size + 1 + 1 + 1 + 1 + 1 + 1 + 1 + 1 + 1 + 1 + 1 + 1 + 1) a2 a3 W ∧ W.cell? ⟨w.heap.size + 1, 0, none⟩ = some (.int .u32 a2) ∧ W.cell? ⟨w.heap.size + 1, 1, none⟩ = some (.int .u32 a3) ∧ W.cell? ⟨w.heap.size + 1 + 1 + 1, 0, none⟩ = some (.int .u32 a4) ∧ W.cell? ⟨w.heap.size + 1 + 1 + 1, 1, none⟩ = some (.int .u32 a5) ∧ w.heap.size + 1 + 1 + 1 < W.heap.size ∧ w.heap.size + 1 + 1 + 1 + 1 + 1 + 1 + 1 + 1 + 1 + 1 + 1 + 1 + 1 < W.heap.size) ⟨by go_grown, (binTestPos_TParenTest (w.heap.size + 1 + 1 + 1 + 1 + 1 + 1 + 1 + 1 + 1 + 1 + 1 + 1 + 1) (w.heap.size + 1 + 1 + 1 + 1 + 1 + 1 + 1 + 1 + 1 + 1 + 1) a2 a3 _ (by simp [go_sem]) (by simp) (parenTestPos_is (w.heap.size + 1 + 1 + 1 + 1 + 1 + 1 + 1 + 1 + 1 + 1 + 1) a2 a3 _ (by simp [go_sem]) (by simp [go_sem]) (by simp))), (by simp [go_sem]), (by simp [go_sem]), (by simp [go_sem]), (by simp [go_sem]), by simp, by simp⟩ ?_
      rintro W ⟨hB, hP, c0, c1, c2, c3, z0, z1⟩
      have HP := Lib.hid hP
      have z2 : w.heap.size + 1 < W.heap.size := by omega
      clear hP
      go_loopw [18, 19] (fun b i wr => Rel W n a2 a3 b i wr) (fun _ i _ => n - (intOf i).toNat)
      case atStart => exact ⟨1, w.heap.size + 1 + 1 + 1 + 1 + 1 + 1 + 1 + 1 + 1 + 1 + 1 + 1 + 1, by omega, hn, rfl, rfl, Below.refl _ _, HP.out, z1⟩
      case round =>
        obtain ⟨k, c, hk1, hk2, rfl, rfl, hWr, hPr, hcz⟩ := hrel
        have HPr := Lib.hid hPr
        have hWz := hWr.size
        have d0 := bget hWr z2 c0
        have d1 := bget hWr z2 c1
        have d2 := bget hWr z0 c2
        have d3 := bget hWr z0 c3
        have y0 : w.heap.size + 1 + 1 + 1 < wr.heap.size := Nat.lt_of_lt_of_le z0 hWr.size
        have y2 : w.heap.size + 1 < wr.heap.size := Nat.lt_of_lt_of_le z2 hWr.size
        clear hPr c0 c1 c2 c3 HP z1
        by_cases hlt : k < n
        · have v1 : (k : Int) < (n : Int) := by omega
          go_wp2_with (first | (go_at_call 25; go_in))
          go_roundw
          case rel => exact ⟨k + 1, wr.heap.size + 1, by omega, by omega, by go_num, rfl, by go_grown, binTestPos_TBinTest _ c a2 a3 _ (by simp [go_sem]) (by simp) (HPr.out.grow (by go_grown)), by simp⟩
          case measure => simp [intOf]; omega
        · obtain rfl : k = n := by omega
          have v1 : ¬ (k : Int) < (k : Int) := by omega
          go_wp2_with fail
          go_region_held3 (fun W9 => Below wr.heap.size wr W9 ∧ W9.cell? ⟨w.heap.size + 1, 0, none⟩ = some (.int .u32 a2) ∧ W9.cell? ⟨w.heap.size + 1, 1, none⟩ = some (.int .u32 a3))
            (first | exact ⟨below_drew _, d0, d1⟩ | exact ⟨by assumption, by assumption, by assumption⟩)
            (first | (go_at_call 26; refine (HPr.out _ (And.left (by assumption))).mono ?_; rintro e w1 ⟨rfl, hb1⟩; have hb2 := below_next (And.left (by assumption)) hb1; have d0 := bget hb2 y2 d0; have d1 := bget hb2 y2 d1; clear hb1))
          go_wp2_with fail
          go_ret
          exact ⟨by simp, below_next hB (below_next hWr hb2)⟩

set_option maxHeartbeats 4000000 in
set_option maxRecDepth 100000 in
theorem walk (a0 : Int) (a1 : Int) (a2 : Int) (a3 : Int) (a4 : Int) (a5 : Int) (a6 : ByteArray) (w : World) (w0 : (Lit.int .i64 a0).wf = true) (w1 : (Lit.int .i64 a1).wf = true) (w2 : (Lit.int .u32 a2).wf = true) (w3 : (Lit.int .u32 a3).wf = true) (w4 : (Lit.int .u32 a4).wf = true) (w5 : (Lit.int .u32 a5).wf = true) (w6 : a6.size ≤ maxLen) :
    Calls Try.prog 5 #[.int .i64 a0, .int .i64 a1, .int .u32 a2, .int .u32 a3, .int .u32 a4, .int .u32 a5, .string a6] w fun e w' => e = .returned (.bool true) ∧ Below w.heap.size w w' := by
  have b0 := bounds_i64 w0
  have b1 := bounds_i64 w1
  have b2 := bounds_u32 w2
  have b3 := bounds_u32 w3
  have b4 := bounds_u32 w4
  have b5 := bounds_u32 w5
  clear w0 w1 w2 w3 w4 w5
  unfold maxLen at w6
  by_cases hs : a6.size ≤ 1048576
  · have q3 : ¬ 1048576 < (a6.size : Int) := by omega
    by_cases h0 : a0 < 1
    · go_enter Try.func5, Try.ntmps5
      go_wp2
      all_goals (go_ret; exact ⟨rfl, by go_grown⟩)
    by_cases h1 : 4096 < a0
    · go_enter Try.func5, Try.ntmps5
      go_wp2
      all_goals (go_ret; exact ⟨rfl, by go_grown⟩)
    by_cases h2 : a1 < 0
    · go_enter Try.func5, Try.ntmps5
      go_wp2
      all_goals (go_ret; exact ⟨rfl, by go_grown⟩)
    by_cases h3 : 2 < a1
    · go_enter Try.func5, Try.ntmps5
      go_wp2
      all_goals (go_ret; exact ⟨rfl, by go_grown⟩)
    by_cases h4 : a2 ≤ 4294967284 ∨ a2 = 4294967285
    · by_cases h5 : a4 ≤ 4294967284 ∨ a4 = 4294967285
      · obtain ⟨n, rfl⟩ : ∃ n : Nat, a0 = (n : Int) := Int.eq_ofNat_of_zero_le (by omega)
        have r2 : (a2 == 4294967285) = true ∨ a2 ≤ 4294967284 := by simp; omega
        have r4 : (a4 == 4294967285) = true ∨ a4 ≤ 4294967284 := by simp; omega
        have hk : a1 = 0 ∨ a1 = 1 ∨ a1 = 2 := by omega
        rcases hk with rfl | rfl | rfl
        · exact walk0 n (by omega) (by omega) _ _ _ _ _ _ hs r2 r4
        · exact walk1 n (by omega) (by omega) _ _ _ _ _ _ hs r2 r4
        · exact walk2 n (by omega) (by omega) _ _ _ _ _ _ hs r2 r4
      · have e5 : (a4 == 4294967285) = false := by simp; omega
        have e6 : ¬ a4 ≤ 4294967284 := by omega
        have h4' : a2 ≤ 4294967284 ∨ ((a2 == 4294967285) = true ∧ ¬ a2 ≤ 4294967284) := by simp; omega
        clear h4 h5
        rcases h4' with h4 | ⟨h4, h6⟩
        all_goals
          go_enter Try.func5, Try.ntmps5
          go_wp2
          all_goals (go_ret; exact ⟨rfl, by go_grown⟩)
    · have e5 : (a2 == 4294967285) = false := by simp; omega
      have e6 : ¬ a2 ≤ 4294967284 := by omega
      clear h4
      go_enter Try.func5, Try.ntmps5
      go_wp2
      all_goals (go_ret; exact ⟨rfl, by go_grown⟩)
  · have q3 : 1048576 < (a6.size : Int) := by omega
    go_enter Try.func5, Try.ntmps5
    go_wp2
    all_goals (go_ret; exact ⟨rfl, by go_grown⟩)
end Go.Proofs.Ytimfajlnlfaffaa.fnBinaryTestPosIsLeftmostLeaf
