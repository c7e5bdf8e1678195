/- Contracts of the position functions of the package: what each returns; it makes memory of its own at most. Conditions: raw fields that fit their kinds. -/
import Derived.Test.YthdbfebfgomnpaaFmtChecked
import Derived.Test.YthdbfebfgomnpaaFmtKit
import Derived.Test.YthdbfebfgomnpaaFmtPosPlain
import Derived.Handy
namespace Go.Proofs.YthdbfebfgomnpaaFmt
open Go.RowKit

set_option maxHeartbeats 400000 in
theorem col_any (o lc : Int) (w : World) (hl : 0 ≤ lc ∧ lc ≤ 4294967295) :
    Calls Tryf.prog 35 #[.agg #[.int .u32 o, .int .u32 lc]] w fun e w' => e = .returned (.int .u64 (colOf lc)) ∧ Below w.heap.size w w' := by
  obtain ⟨hl1, hl2⟩ := hl
  have hb := and_col lc hl1 hl2
  have hm : 0 ≤ lc % 16384 := by omega
  have hm2 : lc % 16384 < 16384 := by omega
  go_enter Tryf.func35, Tryf.ntmps35
  go_wp2
  go_ret
  exact ⟨by simp [colOf], by go_grown⟩
set_option maxHeartbeats 400000 in
theorem line_any (o lc : Int) (w : World) (hl : 0 ≤ lc ∧ lc ≤ 4294967295) :
    Calls Tryf.prog 37 #[.agg #[.int .u32 o, .int .u32 lc]] w fun e w' => e = .returned (.int .u64 (lineOf lc)) ∧ Below w.heap.size w w' := by
  obtain ⟨hl1, hl2⟩ := hl
  go_enter Tryf.func37, Tryf.ntmps37
  go_wp2
  go_ret
  exact ⟨by simp [lineOf], by go_grown⟩
set_option maxHeartbeats 400000 in
theorem newPos_at (o l c : Int) (w : World) (ho : 0 ≤ o ∧ o ≤ 18446744073709551615) (hl : 0 ≤ l ∧ l ≤ 18446744073709551615) (hc : 0 ≤ c ∧ c ≤ 18446744073709551615) :
    Calls Tryf.prog 4 #[.int .u64 o, .int .u64 l, .int .u64 c] w fun e w' => e = .returned (.agg #[.int .u32 (offCap o), .int .u32 (lcOf l c)]) ∧ w' = w.alloc (.cells #[.int .u32 (offCap o), .int .u32 (lcOf l c)] 25) := by
  obtain ⟨ho1, ho2⟩ := ho
  obtain ⟨hl1, hl2⟩ := hl
  obtain ⟨hc1, hc2⟩ := hc
  have hor0 := or_zero c hc1
  have hor1 := or_zero 0 (by omega) (by omega)
  have hor := or_col l
  by_cases h2 : 262143 < l
  all_goals
    by_cases h3 : 16383 < c
    all_goals
      go_enter Tryf.func4, Tryf.ntmps4
      go_wp2
      all_goals
        go_returns
        exact pos_at _ _ (by unfold offCap; (repeat' split) <;> omega) (by unfold lcOf lineIn colIn; (repeat' split) <;> omega)
theorem newPos_any (o l c : Int) (w : World) (ho : 0 ≤ o ∧ o ≤ 18446744073709551615) (hl : 0 ≤ l ∧ l ≤ 18446744073709551615) (hc : 0 ≤ c ∧ c ≤ 18446744073709551615) :
    Calls Tryf.prog 4 #[.int .u64 o, .int .u64 l, .int .u64 c] w fun e w' => e = .returned (.agg #[.int .u32 (offCap o), .int .u32 (lcOf l c)]) ∧ Below w.heap.size w w' :=
  (newPos_at o l c w ho hl hc).mono fun _ _ ⟨he, hw⟩ => ⟨he, by rw [hw]; go_grown⟩
end Go.Proofs.YthdbfebfgomnpaaFmt
