/- The walk of FnBinTestOperatorStringTable: the Go text returns true. Conditions: the listed variables hold what the program's text lays. -/
import Derived.Test.YtpecmkpgbckpcaaDoorTokLaid
import Derived.Handy
import Derived.Outline
namespace Go.Proofs.YtpecmkpgbckpcaaDoor.fnBinTestOperatorStringTable
open Go.RowKit
set_option linter.unusedVariables false

def rowL : List (Int × ByteArray) := [(129, ⟨#[61, 126]⟩), (130, ⟨#[45, 110, 116]⟩), (131, ⟨#[45, 111, 116]⟩), (132, ⟨#[45, 101, 102]⟩), (133, ⟨#[45, 101, 113]⟩), (134, ⟨#[45, 110, 101]⟩), (135, ⟨#[45, 108, 101]⟩), (136, ⟨#[45, 103, 101]⟩), (137, ⟨#[45, 108, 116]⟩), (138, ⟨#[45, 103, 116]⟩), (11, ⟨#[38, 38]⟩), (12, ⟨#[124, 124]⟩), (87, ⟨#[61]⟩), (45, ⟨#[61, 61]⟩), (46, ⟨#[33, 61]⟩), (65, ⟨#[60]⟩), (63, ⟨#[62]⟩)]
def rowC (i : Nat) : Int := (rowL.getD i (0, ⟨#[]⟩)).1
def rowT (i : Nat) : ByteArray := (rowL.getD i (0, ⟨#[]⟩)).2

theorem row_fact : ∀ (k : Fin 144) (i : Fin 17), ((k.val : Int) == rowC i.val) = ((tokRow k.val).data.toList == (rowT i.val).data.toList) := by decide +kernel
theorem row_small : ∀ i : Fin 17, rowC i.val < 144 ∧ (rowT i.val).size < 7 := by decide +kernel
theorem row_law (x : Int) (s : ByteArray) (h : TokStr x s) (i : Nat) (hi : i < 17) : (x == rowC i) = (s.toList == (rowT i).toList) := by
  rcases h with ⟨k, hk, rfl, rfl⟩ | ⟨h1, h2⟩
  · have := row_fact ⟨k, hk⟩ ⟨i, hi⟩
    simp only at this
    rw [this, ByteArray.toList_eq, ByteArray.toList_eq]
  · obtain ⟨r1, r2⟩ := row_small ⟨i, hi⟩
    simp only at r1 r2
    have e1 : (x == rowC i) = false := by simp; omega
    have e2 : (s.toList == (rowT i).toList) = false := by
      rw [ByteArray.toList_eq, ByteArray.toList_eq, beq_eq_false_iff_ne]
      intro h
      have hs : s.data.toList.length = s.size := rfl
      have ht : (rowT i).data.toList.length = (rowT i).size := rfl
      rw [h] at hs
      omega
    rw [e1, e2]

set_option maxHeartbeats 4000000 in
theorem row_any (i : Nat) (hi : i < 17) (w : World) :
    Calls Tryd.prog 10 #[.int .i64 (i : Int)] w fun e w' => e = .returned (.tuple #[.int .u32 (rowC i), .string (rowT i)]) ∧ w' = w := by
  have h : i = 0 ∨ i = 1 ∨ i = 2 ∨ i = 3 ∨ i = 4 ∨ i = 5 ∨ i = 6 ∨ i = 7 ∨ i = 8 ∨ i = 9 ∨ i = 10 ∨ i = 11 ∨ i = 12 ∨ i = 13 ∨ i = 14 ∨ i = 15 ∨ i = 16 := by omega
  rcases h with rfl | rfl | rfl | rfl | rfl | rfl | rfl | rfl | rfl | rfl | rfl | rfl | rfl | rfl | rfl | rfl | rfl
  · show Calls Tryd.prog 10 #[.int .i64 0] w _
    go_enter Tryd.func10, Tryd.ntmps10
    go_wp2
    go_ret2
    exact ⟨rfl, rfl⟩
  · show Calls Tryd.prog 10 #[.int .i64 1] w _
    go_enter Tryd.func10, Tryd.ntmps10
    go_wp2
    go_ret2
    exact ⟨rfl, rfl⟩
  · show Calls Tryd.prog 10 #[.int .i64 2] w _
    go_enter Tryd.func10, Tryd.ntmps10
    go_wp2
    go_ret2
    exact ⟨rfl, rfl⟩
  · show Calls Tryd.prog 10 #[.int .i64 3] w _
    go_enter Tryd.func10, Tryd.ntmps10
    go_wp2
    go_ret2
    exact ⟨rfl, rfl⟩
  · show Calls Tryd.prog 10 #[.int .i64 4] w _
    go_enter Tryd.func10, Tryd.ntmps10
    go_wp2
    go_ret2
    exact ⟨rfl, rfl⟩
  · show Calls Tryd.prog 10 #[.int .i64 5] w _
    go_enter Tryd.func10, Tryd.ntmps10
    go_wp2
    go_ret2
    exact ⟨rfl, rfl⟩
  · show Calls Tryd.prog 10 #[.int .i64 6] w _
    go_enter Tryd.func10, Tryd.ntmps10
    go_wp2
    go_ret2
    exact ⟨rfl, rfl⟩
  · show Calls Tryd.prog 10 #[.int .i64 7] w _
    go_enter Tryd.func10, Tryd.ntmps10
    go_wp2
    go_ret2
    exact ⟨rfl, rfl⟩
  · show Calls Tryd.prog 10 #[.int .i64 8] w _
    go_enter Tryd.func10, Tryd.ntmps10
    go_wp2
    go_ret2
    exact ⟨rfl, rfl⟩
  · show Calls Tryd.prog 10 #[.int .i64 9] w _
    go_enter Tryd.func10, Tryd.ntmps10
    go_wp2
    go_ret2
    exact ⟨rfl, rfl⟩
  · show Calls Tryd.prog 10 #[.int .i64 10] w _
    go_enter Tryd.func10, Tryd.ntmps10
    go_wp2
    go_ret2
    exact ⟨rfl, rfl⟩
  · show Calls Tryd.prog 10 #[.int .i64 11] w _
    go_enter Tryd.func10, Tryd.ntmps10
    go_wp2
    go_ret2
    exact ⟨rfl, rfl⟩
  · show Calls Tryd.prog 10 #[.int .i64 12] w _
    go_enter Tryd.func10, Tryd.ntmps10
    go_wp2
    go_ret2
    exact ⟨rfl, rfl⟩
  · show Calls Tryd.prog 10 #[.int .i64 13] w _
    go_enter Tryd.func10, Tryd.ntmps10
    go_wp2
    go_ret2
    exact ⟨rfl, rfl⟩
  · show Calls Tryd.prog 10 #[.int .i64 14] w _
    go_enter Tryd.func10, Tryd.ntmps10
    go_wp2
    go_ret2
    exact ⟨rfl, rfl⟩
  · show Calls Tryd.prog 10 #[.int .i64 15] w _
    go_enter Tryd.func10, Tryd.ntmps10
    go_wp2
    go_ret2
    exact ⟨rfl, rfl⟩
  · show Calls Tryd.prog 10 #[.int .i64 16] w _
    go_enter Tryd.func10, Tryd.ntmps10
    go_wp2
    go_ret2
    exact ⟨rfl, rfl⟩

set_option maxHeartbeats 4000000 in
set_option maxRecDepth 100000 in
theorem body (x : Int) (w : World) (hx0 : 0 ≤ x) (hx1 : x ≤ 4294967295) (hT : Lib.TabIs Tryd.prog w "mvdan.cc/sh/v3/syntax._token_index" .u16 idxL) (hP : Lib.TabIs Tryd.prog w "internal/strconv.uint64pow10" .u64 Lib.pow10Tab) :
    Calls Tryd.prog 4 #[.int .u32 x] w fun e w' => e = .returned (.bool true) ∧ Below w.heap.size w w' := by
  go_enter Tryd.func4, Tryd.ntmps4
  go_wp2_with fail
  refine (sBinTest_any x hx0 hx1 _ hT hP).mono ?_
  rintro e w' ⟨⟨s, rfl, hs⟩, hb⟩
  go_wp2_with fail
  go_loop [5, 6, 7] (fun i c t => ∃ k : Nat, k ≤ 17 ∧ i = .int .i64 k) (fun i _ _ => 17 - (intOf i).toNat)
  case atStart => exact ⟨0, by omega, rfl⟩
  case round =>
    obtain ⟨k, hk, rfl⟩ := hrel
    by_cases hlt : k < 17
    · have hR := row_law x s hs k hlt
      have hR2 : (!((x == rowC k) == (s.toList == (rowT k).toList))) = false := by rw [hR]; simp
      have hR3 : ((x == rowC k) != (s.toList == (rowT k).toList)) = false := by rw [hR]; simp
      clear hR
      go_wp2_with (first
        | (go_at_call 10; refine (row_any k hlt _).mono ?_; rintro e w' ⟨rfl, rfl⟩))
      go_round
      case rel => exact ⟨k + 1, by omega, by go_num⟩
      case measure => simp [intOf]; omega
    · obtain rfl : k = 17 := by omega
      go_wp2_with fail
      go_ret
      exact ⟨rfl, hb⟩

theorem walk (a0 : Int) (w : World) (w0 : (Lit.int .u32 a0).wf = true) (hL : laidMetH Tryd.prog Rows.fnBinTestOperatorStringTableRow.laid w) :
    Calls Tryd.prog 4 #[.int .u32 a0] w fun e w' => e = .returned (.bool true) ∧ Below w.heap.size w w' := by
  have b0 := bounds_u32 w0
  obtain ⟨hT, hP⟩ := tabs_of_laid (show laidMetH Tryd.prog Rows.fnUnAritOperatorStringTableRow.laid w from hL)
  exact body a0 w b0.1 b0.2 hT hP
end Go.Proofs.YtpecmkpgbckpcaaDoor.fnBinTestOperatorStringTable
