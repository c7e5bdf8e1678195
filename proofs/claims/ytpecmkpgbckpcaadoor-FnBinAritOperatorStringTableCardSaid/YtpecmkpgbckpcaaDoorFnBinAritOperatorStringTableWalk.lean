/- The walk of FnBinAritOperatorStringTable: the Go text returns true. Conditions: the listed variables hold what the program's text lays. -/
import Derived.Test.YtpecmkpgbckpcaaDoorTokLaid
import Derived.Handy
import Derived.Outline
namespace Go.Proofs.YtpecmkpgbckpcaaDoor.fnBinAritOperatorStringTable
open Go.RowKit
set_option linter.unusedVariables false

def rowL : List (Int × ByteArray) := [(81, ⟨#[43]⟩), (83, ⟨#[45]⟩), (43, ⟨#[42]⟩), (101, ⟨#[47]⟩), (89, ⟨#[37]⟩), (44, ⟨#[42, 42]⟩), (45, ⟨#[61, 61]⟩), (63, ⟨#[62]⟩), (65, ⟨#[60]⟩), (46, ⟨#[33, 61]⟩), (47, ⟨#[60, 61]⟩), (48, ⟨#[62, 61]⟩), (10, ⟨#[38]⟩), (13, ⟨#[124]⟩), (96, ⟨#[94]⟩), (64, ⟨#[62, 62]⟩), (71, ⟨#[60, 60]⟩), (11, ⟨#[38, 38]⟩), (12, ⟨#[124, 124]⟩), (97, ⟨#[94, 94]⟩), (98, ⟨#[44]⟩), (85, ⟨#[63]⟩), (104, ⟨#[58]⟩), (87, ⟨#[61]⟩), (49, ⟨#[43, 61]⟩), (50, ⟨#[45, 61]⟩), (51, ⟨#[42, 61]⟩), (52, ⟨#[47, 61]⟩), (53, ⟨#[37, 61]⟩), (54, ⟨#[38, 61]⟩), (55, ⟨#[124, 61]⟩), (56, ⟨#[94, 61]⟩), (57, ⟨#[60, 60, 61]⟩), (58, ⟨#[62, 62, 61]⟩), (59, ⟨#[38, 38, 61]⟩), (60, ⟨#[124, 124, 61]⟩), (61, ⟨#[94, 94, 61]⟩), (62, ⟨#[42, 42, 61]⟩)]
def rowC (i : Nat) : Int := (rowL.getD i (0, ⟨#[]⟩)).1
def rowT (i : Nat) : ByteArray := (rowL.getD i (0, ⟨#[]⟩)).2

theorem row_fact : ∀ (k : Fin 144) (i : Fin 38), ((k.val : Int) == rowC i.val) = ((tokRow k.val).data.toList == (rowT i.val).data.toList) := by decide +kernel
theorem row_small : ∀ i : Fin 38, rowC i.val < 144 ∧ (rowT i.val).size < 7 := by decide +kernel
theorem row_law (x : Int) (s : ByteArray) (h : TokStr x s) (i : Nat) (hi : i < 38) : (x == rowC i) = (s.toList == (rowT i).toList) := by
  rcases h with ⟨k, hk, rfl, rfl⟩ | ⟨h1, h2⟩
  · have := row_fact ⟨k, hk⟩ ⟨i, hi⟩
    simp only at this
    rw [this, ByteArray.toList_eq, ByteArray.toList_eq]
  · obtain ⟨r1, r2⟩ := row_small ⟨i, hi⟩
    simp only at r1 r2
    have e1 : (x == rowC i) = false := by simp; omega
    have e2 : (s.toList == (rowT i).toList) = false := by
      rw [ByteArray.toList_eq, ByteArray.toList_eq, beq_eq_false_iff_ne]
      intro h
      have hs : s.data.toList.length = s.size := rfl
      have ht : (rowT i).data.toList.length = (rowT i).size := rfl
      rw [h] at hs
      omega
    rw [e1, e2]

set_option maxHeartbeats 4000000 in
theorem row_any (i : Nat) (hi : i < 38) (w : World) :
    Calls Tryd.prog 8 #[.int .i64 (i : Int)] w fun e w' => e = .returned (.tuple #[.int .u32 (rowC i), .string (rowT i)]) ∧ w' = w := by
  have h : i = 0 ∨ i = 1 ∨ i = 2 ∨ i = 3 ∨ i = 4 ∨ i = 5 ∨ i = 6 ∨ i = 7 ∨ i = 8 ∨ i = 9 ∨ i = 10 ∨ i = 11 ∨ i = 12 ∨ i = 13 ∨ i = 14 ∨ i = 15 ∨ i = 16 ∨ i = 17 ∨ i = 18 ∨ i = 19 ∨ i = 20 ∨ i = 21 ∨ i = 22 ∨ i = 23 ∨ i = 24 ∨ i = 25 ∨ i = 26 ∨ i = 27 ∨ i = 28 ∨ i = 29 ∨ i = 30 ∨ i = 31 ∨ i = 32 ∨ i = 33 ∨ i = 34 ∨ i = 35 ∨ i = 36 ∨ i = 37 := by omega
  rcases h with rfl | rfl | rfl | rfl | rfl | rfl | rfl | rfl | rfl | rfl | rfl | rfl | rfl | rfl | rfl | rfl | rfl | rfl | rfl | rfl | rfl | rfl | rfl | rfl | rfl | rfl | rfl | rfl | rfl | rfl | rfl | rfl | rfl | rfl | rfl | rfl | rfl | rfl
  · show Calls Tryd.prog 8 #[.int .i64 0] w _
    go_enter Tryd.func8, Tryd.ntmps8
    go_wp2
    go_ret2
    exact ⟨rfl, rfl⟩
  · show Calls Tryd.prog 8 #[.int .i64 1] w _
    go_enter Tryd.func8, Tryd.ntmps8
    go_wp2
    go_ret2
    exact ⟨rfl, rfl⟩
  · show Calls Tryd.prog 8 #[.int .i64 2] w _
    go_enter Tryd.func8, Tryd.ntmps8
    go_wp2
    go_ret2
    exact ⟨rfl, rfl⟩
  · show Calls Tryd.prog 8 #[.int .i64 3] w _
    go_enter Tryd.func8, Tryd.ntmps8
    go_wp2
    go_ret2
    exact ⟨rfl, rfl⟩
  · show Calls Tryd.prog 8 #[.int .i64 4] w _
    go_enter Tryd.func8, Tryd.ntmps8
    go_wp2
    go_ret2
    exact ⟨rfl, rfl⟩
  · show Calls Tryd.prog 8 #[.int .i64 5] w _
    go_enter Tryd.func8, Tryd.ntmps8
    go_wp2
    go_ret2
    exact ⟨rfl, rfl⟩
  · show Calls Tryd.prog 8 #[.int .i64 6] w _
    go_enter Tryd.func8, Tryd.ntmps8
    go_wp2
    go_ret2
    exact ⟨rfl, rfl⟩
  · show Calls Tryd.prog 8 #[.int .i64 7] w _
    go_enter Tryd.func8, Tryd.ntmps8
    go_wp2
    go_ret2
    exact ⟨rfl, rfl⟩
  · show Calls Tryd.prog 8 #[.int .i64 8] w _
    go_enter Tryd.func8, Tryd.ntmps8
    go_wp2
    go_ret2
    exact ⟨rfl, rfl⟩
  · show Calls Tryd.prog 8 #[.int .i64 9] w _
    go_enter Tryd.func8, Tryd.ntmps8
    go_wp2
    go_ret2
    exact ⟨rfl, rfl⟩
  · show Calls Tryd.prog 8 #[.int .i64 10] w _
    go_enter Tryd.func8, Tryd.ntmps8
    go_wp2
    go_ret2
    exact ⟨rfl, rfl⟩
  · show Calls Tryd.prog 8 #[.int .i64 11] w _
    go_enter Tryd.func8, Tryd.ntmps8
    go_wp2
    go_ret2
    exact ⟨rfl, rfl⟩
  · show Calls Tryd.prog 8 #[.int .i64 12] w _
    go_enter Tryd.func8, Tryd.ntmps8
    go_wp2
    go_ret2
    exact ⟨rfl, rfl⟩
  · show Calls Tryd.prog 8 #[.int .i64 13] w _
    go_enter Tryd.func8, Tryd.ntmps8
    go_wp2
    go_ret2
    exact ⟨rfl, rfl⟩
  · show Calls Tryd.prog 8 #[.int .i64 14] w _
    go_enter Tryd.func8, Tryd.ntmps8
    go_wp2
    go_ret2
    exact ⟨rfl, rfl⟩
  · show Calls Tryd.prog 8 #[.int .i64 15] w _
    go_enter Tryd.func8, Tryd.ntmps8
    go_wp2
    go_ret2
    exact ⟨rfl, rfl⟩
  · show Calls Tryd.prog 8 #[.int .i64 16] w _
    go_enter Tryd.func8, Tryd.ntmps8
    go_wp2
    go_ret2
    exact ⟨rfl, rfl⟩
  · show Calls Tryd.prog 8 #[.int .i64 17] w _
    go_enter Tryd.func8, Tryd.ntmps8
    go_wp2
    go_ret2
    exact ⟨rfl, rfl⟩
  · show Calls Tryd.prog 8 #[.int .i64 18] w _
    go_enter Tryd.func8, Tryd.ntmps8
    go_wp2
    go_ret2
    exact ⟨rfl, rfl⟩
  · show Calls Tryd.prog 8 #[.int .i64 19] w _
    go_enter Tryd.func8, Tryd.ntmps8
    go_wp2
    go_ret2
    exact ⟨rfl, rfl⟩
  · show Calls Tryd.prog 8 #[.int .i64 20] w _
    go_enter Tryd.func8, Tryd.ntmps8
    go_wp2
    go_ret2
    exact ⟨rfl, rfl⟩
  · show Calls Tryd.prog 8 #[.int .i64 21] w _
    go_enter Tryd.func8, Tryd.ntmps8
    go_wp2
    go_ret2
    exact ⟨rfl, rfl⟩
  · show Calls Tryd.prog 8 #[.int .i64 22] w _
    go_enter Tryd.func8, Tryd.ntmps8
    go_wp2
    go_ret2
    exact ⟨rfl, rfl⟩
  · show Calls Tryd.prog 8 #[.int .i64 23] w _
    go_enter Tryd.func8, Tryd.ntmps8
    go_wp2
    go_ret2
    exact ⟨rfl, rfl⟩
  · show Calls Tryd.prog 8 #[.int .i64 24] w _
    go_enter Tryd.func8, Tryd.ntmps8
    go_wp2
    go_ret2
    exact ⟨rfl, rfl⟩
  · show Calls Tryd.prog 8 #[.int .i64 25] w _
    go_enter Tryd.func8, Tryd.ntmps8
    go_wp2
    go_ret2
    exact ⟨rfl, rfl⟩
  · show Calls Tryd.prog 8 #[.int .i64 26] w _
    go_enter Tryd.func8, Tryd.ntmps8
    go_wp2
    go_ret2
    exact ⟨rfl, rfl⟩
  · show Calls Tryd.prog 8 #[.int .i64 27] w _
    go_enter Tryd.func8, Tryd.ntmps8
    go_wp2
    go_ret2
    exact ⟨rfl, rfl⟩
  · show Calls Tryd.prog 8 #[.int .i64 28] w _
    go_enter Tryd.func8, Tryd.ntmps8
    go_wp2
    go_ret2
    exact ⟨rfl, rfl⟩
  · show Calls Tryd.prog 8 #[.int .i64 29] w _
    go_enter Tryd.func8, Tryd.ntmps8
    go_wp2
    go_ret2
    exact ⟨rfl, rfl⟩
  · show Calls Tryd.prog 8 #[.int .i64 30] w _
    go_enter Tryd.func8, Tryd.ntmps8
    go_wp2
    go_ret2
    exact ⟨rfl, rfl⟩
  · show Calls Tryd.prog 8 #[.int .i64 31] w _
    go_enter Tryd.func8, Tryd.ntmps8
    go_wp2
    go_ret2
    exact ⟨rfl, rfl⟩
  · show Calls Tryd.prog 8 #[.int .i64 32] w _
    go_enter Tryd.func8, Tryd.ntmps8
    go_wp2
    go_ret2
    exact ⟨rfl, rfl⟩
  · show Calls Tryd.prog 8 #[.int .i64 33] w _
    go_enter Tryd.func8, Tryd.ntmps8
    go_wp2
    go_ret2
    exact ⟨rfl, rfl⟩
  · show Calls Tryd.prog 8 #[.int .i64 34] w _
    go_enter Tryd.func8, Tryd.ntmps8
    go_wp2
    go_ret2
    exact ⟨rfl, rfl⟩
  · show Calls Tryd.prog 8 #[.int .i64 35] w _
    go_enter Tryd.func8, Tryd.ntmps8
    go_wp2
    go_ret2
    exact ⟨rfl, rfl⟩
  · show Calls Tryd.prog 8 #[.int .i64 36] w _
    go_enter Tryd.func8, Tryd.ntmps8
    go_wp2
    go_ret2
    exact ⟨rfl, rfl⟩
  · show Calls Tryd.prog 8 #[.int .i64 37] w _
    go_enter Tryd.func8, Tryd.ntmps8
    go_wp2
    go_ret2
    exact ⟨rfl, rfl⟩

set_option maxHeartbeats 4000000 in
set_option maxRecDepth 100000 in
theorem body (x : Int) (w : World) (hx0 : 0 ≤ x) (hx1 : x ≤ 4294967295) (hT : Lib.TabIs Tryd.prog w "mvdan.cc/sh/v3/syntax._token_index" .u16 idxL) (hP : Lib.TabIs Tryd.prog w "internal/strconv.uint64pow10" .u64 Lib.pow10Tab) :
    Calls Tryd.prog 3 #[.int .u32 x] w fun e w' => e = .returned (.bool true) ∧ Below w.heap.size w w' := by
  go_enter Tryd.func3, Tryd.ntmps3
  go_wp2_with fail
  refine (sBinArit_any x hx0 hx1 _ hT hP).mono ?_
  rintro e w' ⟨⟨s, rfl, hs⟩, hb⟩
  go_wp2_with fail
  go_loop [5, 6, 7] (fun i c t => ∃ k : Nat, k ≤ 38 ∧ i = .int .i64 k) (fun i _ _ => 38 - (intOf i).toNat)
  case atStart => exact ⟨0, by omega, rfl⟩
  case round =>
    obtain ⟨k, hk, rfl⟩ := hrel
    by_cases hlt : k < 38
    · have hR := row_law x s hs k hlt
      have hR2 : (!((x == rowC k) == (s.toList == (rowT k).toList))) = false := by rw [hR]; simp
      have hR3 : ((x == rowC k) != (s.toList == (rowT k).toList)) = false := by rw [hR]; simp
      clear hR
      go_wp2_with (first
        | (go_at_call 8; refine (row_any k hlt _).mono ?_; rintro e w' ⟨rfl, rfl⟩))
      go_round
      case rel => exact ⟨k + 1, by omega, by go_num⟩
      case measure => simp [intOf]; omega
    · obtain rfl : k = 38 := by omega
      go_wp2_with fail
      go_ret
      exact ⟨rfl, hb⟩

theorem walk (a0 : Int) (w : World) (w0 : (Lit.int .u32 a0).wf = true) (hL : laidMetH Tryd.prog Rows.fnBinAritOperatorStringTableRow.laid w) :
    Calls Tryd.prog 3 #[.int .u32 a0] w fun e w' => e = .returned (.bool true) ∧ Below w.heap.size w w' := by
  have b0 := bounds_u32 w0
  obtain ⟨hT, hP⟩ := tabs_of_laid (show laidMetH Tryd.prog Rows.fnUnAritOperatorStringTableRow.laid w from hL)
  exact body a0 w b0.1 b0.2 hT hP
end Go.Proofs.YtpecmkpgbckpcaaDoor.fnBinAritOperatorStringTable
