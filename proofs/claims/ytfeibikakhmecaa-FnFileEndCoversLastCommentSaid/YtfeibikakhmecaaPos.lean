/- Contracts of the position functions of the package: what each returns; it makes memory of its own at most. Conditions: raw fields that fit their kinds. -/
import Derived.Test.YtfeibikakhmecaaChecked
import Derived.Test.YtfeibikakhmecaaKit
import Derived.Test.YtfeibikakhmecaaPosPlain
import Derived.Handy
namespace Go.Proofs.Ytfeibikakhmecaa
open Go.RowKit

set_option maxHeartbeats 400000 in
theorem isValid_any (o lc : Int) (w : World) (ho : 0 ≤ o ∧ o ≤ 4294967295) (hl : 0 ≤ lc ∧ lc ≤ 4294967295) :
    Calls Try.prog 14 #[.agg #[.int .u32 o, .int .u32 lc]] w fun e w' => e = .returned (.bool (validB o lc)) ∧ Below w.heap.size w w' := by
  obtain ⟨ho1, ho2⟩ := ho
  obtain ⟨hl1, hl2⟩ := hl
  by_cases h1 : o ≤ 4294967284
  · by_cases h2 : lc = 0
    · subst h2
      go_enter Try.func14, Try.ntmps14
      go_wp2
      go_ret
      exact ⟨by simp [validB], by go_grown⟩
    · have h3 : (lc != 0) = true := by simp [h2]
      go_enter Try.func14, Try.ntmps14
      go_wp2
      go_ret
      exact ⟨by simp [validB, h1, h2], by go_grown⟩
  · go_enter Try.func14, Try.ntmps14
    go_wp2
    go_ret
    exact ⟨by simp [validB]; omega, by go_grown⟩
set_option maxHeartbeats 400000 in
theorem offset_any (o lc : Int) (w : World) (ho : 0 ≤ o ∧ o ≤ 4294967295) :
    Calls Try.prog 17 #[.agg #[.int .u32 o, .int .u32 lc]] w fun e w' => e = .returned (.int .u64 (offOf o)) ∧ Below w.heap.size w w' := by
  obtain ⟨ho1, ho2⟩ := ho
  by_cases h1 : 4294967284 < o
  all_goals
    go_enter Try.func17, Try.ntmps17
    go_wp2
    go_ret
    exact ⟨by simp [offOf]; omega, by go_grown⟩
set_option maxHeartbeats 400000 in
theorem col_any (o lc : Int) (w : World) (hl : 0 ≤ lc ∧ lc ≤ 4294967295) :
    Calls Try.prog 34 #[.agg #[.int .u32 o, .int .u32 lc]] w fun e w' => e = .returned (.int .u64 (colOf lc)) ∧ Below w.heap.size w w' := by
  obtain ⟨hl1, hl2⟩ := hl
  have hb := and_col lc hl1 hl2
  have hm : 0 ≤ lc % 16384 := by omega
  have hm2 : lc % 16384 < 16384 := by omega
  go_enter Try.func34, Try.ntmps34
  go_wp2
  go_ret
  exact ⟨by simp [colOf], by go_grown⟩
set_option maxHeartbeats 400000 in
theorem after_any (o lc o2 lc2 : Int) (w : World) (ho : 0 ≤ o ∧ o ≤ 4294967295) (hl : 0 ≤ lc ∧ lc ≤ 4294967295) :
    Calls Try.prog 21 #[.agg #[.int .u32 o, .int .u32 lc], .agg #[.int .u32 o2, .int .u32 lc2]] w fun e w' => e = .returned (.bool (validB o lc && decide (o2 < o))) ∧ Below w.heap.size w w' := by
  cases hv : validB o lc
  all_goals
    go_enter Try.func21, Try.ntmps21
    go_wp2_with (go_at_call 14; refine (isValid_any _ _ _ ho hl).mono ?_; rintro e w1 ⟨rfl, hb1⟩; obtain ⟨hc1, hf1⟩ := bcell hb1)
    go_ret
    exact ⟨by simp, below_via (by go_grown) hb1 (by go_size)⟩
set_option maxHeartbeats 400000 in
theorem newPos_at (o l c : Int) (w : World) (ho : 0 ≤ o ∧ o ≤ 18446744073709551615) (hl : 0 ≤ l ∧ l ≤ 18446744073709551615) (hc : 0 ≤ c ∧ c ≤ 18446744073709551615) :
    Calls Try.prog 29 #[.int .u64 o, .int .u64 l, .int .u64 c] w fun e w' => e = .returned (.agg #[.int .u32 (offCap o), .int .u32 (lcOf l c)]) ∧ w' = w.alloc (.cells #[.int .u32 (offCap o), .int .u32 (lcOf l c)] 29) := by
  obtain ⟨ho1, ho2⟩ := ho
  obtain ⟨hl1, hl2⟩ := hl
  obtain ⟨hc1, hc2⟩ := hc
  have hor0 := or_zero c hc1
  have hor1 := or_zero 0 (by omega) (by omega)
  have hor := or_col l
  by_cases h2 : 262143 < l
  all_goals
    by_cases h3 : 16383 < c
    all_goals
      go_enter Try.func29, Try.ntmps29
      go_wp2
      all_goals
        go_returns
        exact pos_at _ _ (by unfold offCap; (repeat' split) <;> omega) (by unfold lcOf lineIn colIn; (repeat' split) <;> omega)
theorem newPos_any (o l c : Int) (w : World) (ho : 0 ≤ o ∧ o ≤ 18446744073709551615) (hl : 0 ≤ l ∧ l ≤ 18446744073709551615) (hc : 0 ≤ c ∧ c ≤ 18446744073709551615) :
    Calls Try.prog 29 #[.int .u64 o, .int .u64 l, .int .u64 c] w fun e w' => e = .returned (.agg #[.int .u32 (offCap o), .int .u32 (lcOf l c)]) ∧ Below w.heap.size w w' :=
  (newPos_at o l c w ho hl hc).mono fun _ _ ⟨he, hw⟩ => ⟨he, by rw [hw]; go_grown⟩
set_option maxHeartbeats 1000000 in
theorem addCol_any (o lc n : Int) (w : World) (ho : 0 ≤ o ∧ o ≤ 4294967295) (hl : 0 ≤ lc ∧ lc ≤ 4294967295) (hn : -4611686018427387904 ≤ n ∧ n ≤ 4611686018427387904) :
    Calls Try.prog 30 #[.agg #[.int .u32 o, .int .u32 lc], .int .i64 n] w fun e w' => e = .returned (.agg #[.int .u32 (addO o lc n), .int .u32 (addLc o lc n)]) ∧ Below w.heap.size w w' := by
  obtain ⟨ho1, ho2⟩ := ho
  obtain ⟨hl1, hl2⟩ := hl
  obtain ⟨hn1, hn2⟩ := hn
  by_cases h1 : 4294967284 < o
  · go_enter Try.func30, Try.ntmps30
    go_wp2
    go_returns
    exact ⟨ret_pos (addO_no (Or.inl h1)) (addLc_no (Or.inl h1)), by go_grown⟩
  by_cases h2 : lc = 0
  · subst h2
    go_enter Try.func30, Try.ntmps30
    go_wp2
    go_returns
    exact ⟨ret_pos (addO_no (Or.inr rfl)) (addLc_no (Or.inr rfl)), by go_grown⟩
  have h3 : (lc != 0) = true := by simp [h2]
  have hm1 : 0 ≤ lc % 16384 := by omega
  have hm2 : lc % 16384 < 16384 := by omega
  have hb := and_col lc hl1 hl2
  have hb2 := andNot_col lc hl1 hl2
  clear h2
  by_cases h4 : 0 < lc % 16384
  all_goals
    go_enter Try.func30, Try.ntmps30
    go_wp2
    all_goals
      go_returns
      exact ⟨ret_pos (addO_is (by omega) h3 (by omega)) (addLc_is (by omega) h3 (by rw [or_col _ _ (by omega) (by omega) (by omega) (by omega)]; omega)), by go_grown⟩
end Go.Proofs.Ytfeibikakhmecaa
