/- The walk of FnPosIsValidExact: the Go text returns true. Conditions: none beyond the kinds. -/
import Derived.Test.YthkkhbdhminjfaaPos
import Derived.OpenShut
namespace Go.Proofs.Ythkkhbdhminjfaa.fnPosIsValidExact
open Go.RowKit

def modelB (l c : Int) : Bool := decide (1 ≤ lineIn l ∨ 1 ≤ colIn c)

theorem plain (a0 a1 a2 : Int) (h1 : 0 ≤ a1) (h2 : 0 ≤ a2) : validB (offCap a0) (lcOf a1 a2) = modelB a1 a2 := by
  unfold modelB validB lcOf lineIn colIn offCap
  rw [decide_eq_decide]
  repeat' split
  all_goals omega

theorem bounds (a0 a1 a2 : Int) (h0 : 0 ≤ a0) (h1 : 0 ≤ a1) (h2 : 0 ≤ a2) : (0 ≤ offCap a0 ∧ offCap a0 ≤ 4294967295) ∧ (0 ≤ lcOf a1 a2 ∧ lcOf a1 a2 ≤ 4294967295) := by
  unfold lcOf lineIn colIn offCap
  repeat' split
  all_goals omega

set_option maxHeartbeats 1000000 in
theorem model_any (l c : Int) (w : World) (b1 : 0 ≤ l ∧ l ≤ 18446744073709551615) (b2 : 0 ≤ c ∧ c ≤ 18446744073709551615) :
    Calls Try.prog 8 #[.int .u64 l, .int .u64 c] w fun e w' => e = .returned (.bool (modelB l c)) ∧ Below w.heap.size w w' := by
  obtain ⟨b1, b1'⟩ := b1
  obtain ⟨b2, b2'⟩ := b2
  by_cases h1 : 1 ≤ l ∧ l ≤ 262143
  · obtain ⟨h1, h1'⟩ := h1
    have e0 : (l != 0) = true := by rw [bne_iff_ne]; omega
    go_enter Try.func8, Try.ntmps8
    go_wp2
    go_ret
    exact ⟨ret_bool (by unfold modelB lineIn colIn; rw [eq_comm, decide_eq_true_iff]; (repeat' split) <;> omega), by go_grown⟩
  · have h0 : l = 0 ∨ 262143 < l := by omega
    clear h1
    by_cases h2 : 1 ≤ c ∧ c ≤ 16383
    · obtain ⟨h2, h2'⟩ := h2
      have e0 : (c != 0) = true := by rw [bne_iff_ne]; omega
      rcases h0 with rfl | h0
      all_goals
        go_enter Try.func8, Try.ntmps8
        go_wp2
        go_ret
        exact ⟨ret_bool (by unfold modelB lineIn colIn; rw [eq_comm, decide_eq_true_iff]; (repeat' split) <;> omega), by go_grown⟩
    · have h3 : c = 0 ∨ 16383 < c := by omega
      clear h2
      rcases h0 with rfl | h0
      all_goals
        rcases h3 with rfl | h3
        all_goals
          go_enter Try.func8, Try.ntmps8
          go_wp2
          go_ret
          exact ⟨ret_bool (by unfold modelB lineIn colIn; rw [eq_comm, decide_eq_false_iff_not]; (repeat' split) <;> omega), by go_grown⟩

set_option maxHeartbeats 400000 in
theorem walk (a0 a1 a2 : Int) (w : World) (w0 : (Lit.int .u64 a0).wf = true) (w1 : (Lit.int .u64 a1).wf = true) (w2 : (Lit.int .u64 a2).wf = true) :
    Calls Try.prog 3 #[.int .u64 a0, .int .u64 a1, .int .u64 a2] w fun e w' => e = .returned (.bool true) ∧ Below w.heap.size w w' := by
  have b0 := bounds_u64 w0
  have b1 := bounds_u64 w1
  have b2 := bounds_u64 w2
  clear w0 w1 w2
  have hp := Lib.hid (plain a0 a1 a2 b1.1 b2.1)
  have hb := bounds a0 a1 a2 b0.1 b1.1 b2.1
  have hB : Below w.heap.size w w := Below.refl _ _
  go_enter Try.func3, Try.ntmps3
  go_wp2_with fail
  refine (newPos_any _ _ _ _ b0 b1 b2).mono ?_
  rintro e w1 ⟨rfl, hb1⟩
  have hB1 := below_next hB hb1
  clear hb1 hB
  go_wp2_with fail
  refine (isValid_any _ _ _ hb.1 hb.2).mono ?_
  rintro e w2 ⟨rfl, hb2⟩
  have hB2 := below_next hB1 hb2
  clear hb2 hB1
  go_wp2_with fail
  refine (model_any _ _ _ b1 b2).mono ?_
  rintro e w3 ⟨rfl, hb3⟩
  have hB3 := below_next hB2 hb3
  clear hb3 hB2
  go_wp2_with fail
  go_ret
  exact ⟨by rw [hp.out]; simp, hB3⟩
end Go.Proofs.Ythkkhbdhminjfaa.fnPosIsValidExact
