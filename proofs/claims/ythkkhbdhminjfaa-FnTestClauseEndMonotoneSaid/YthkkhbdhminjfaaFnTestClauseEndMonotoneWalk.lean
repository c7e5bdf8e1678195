/- The walk of FnTestClauseEndMonotone: the Go text returns true. Conditions: none beyond the kinds. -/
import Derived.Test.YthkkhbdhminjfaaPos
import Derived.OpenShut
import Derived.Outline
namespace Go.Proofs.Ythkkhbdhminjfaa.fnTestClauseEndMonotone
open Go.RowKit

set_option maxHeartbeats 400000 in
theorem tend_any (b : Nat) (o lc : Int) (w : World) (ho : 0 ≤ o ∧ o ≤ 4294967295) (hl : 0 ≤ lc ∧ lc ≤ 4294967295) (h2 : w.cell? ⟨b, 2, none⟩ = some (.int .u32 o)) (h3 : w.cell? ⟨b, 3, none⟩ = some (.int .u32 lc)) (hb : b < w.heap.size) :
    Calls Try.prog 11 #[.pointer (some ⟨b, 0, none⟩)] w fun e w' => e = .returned (.agg #[.int .u32 (addO o lc 2), .int .u32 (addLc o lc 2)]) ∧ Below w.heap.size w w' := by
  go_enter Try.func11, Try.ntmps11
  go_wp2_with fail
  refine (addCol_any _ _ _ _ ho hl (by omega)).mono ?_
  rintro e w1 ⟨rfl, hb1⟩
  obtain ⟨k0, k1, f0, f1, hB⟩ := slot_after hb1
  clear hb1
  go_wp2_with fail
  exact bodyPost_ret (v := .agg #[.int .u32 (addO o lc 2), .int .u32 (addLc o lc 2)]) (by simp [results, Try.results11, go_sem, k0, k1]) rfl ⟨rfl, by go_grown⟩

theorem plain (o1 l1 o2 l2 : Int) (h1 : validB o1 l1 = true) (h2 : validB o2 l2 = true) (b1 : 0 ≤ o1) (b2 : 0 ≤ o2) (h : o1 ≤ o2) : offOf (addO o1 l1 2) ≤ offOf (addO o2 l2 2) := by
  rw [addO, if_pos h1, addO, if_pos h2]
  simp [validB] at h1 h2
  unfold offOf
  repeat' split
  all_goals omega

set_option maxHeartbeats 1000000 in
theorem walk (a0 a1 a2 a3 : Int) (w : World) (w0 : (Lit.int .u32 a0).wf = true) (w1 : (Lit.int .u32 a1).wf = true) (w2 : (Lit.int .u32 a2).wf = true) (w3 : (Lit.int .u32 a3).wf = true) :
    Calls Try.prog 4 #[.int .u32 a0, .int .u32 a1, .int .u32 a2, .int .u32 a3] w fun e w' => e = .returned (.bool true) ∧ Below w.heap.size w w' := by
  have b0 := bounds_u32 w0
  have b1 := bounds_u32 w1
  have b2 := bounds_u32 w2
  have b3 := bounds_u32 w3
  clear w0 w1 w2 w3
  by_cases h0 : 4294967284 < a0
  · go_enter Try.func4, Try.ntmps4
    go_wp2
    go_ret
    exact ⟨rfl, by go_grown⟩
  by_cases h1 : a1 = 0
  · subst h1
    go_enter Try.func4, Try.ntmps4
    go_wp2
    go_ret
    exact ⟨rfl, by go_grown⟩
  have e1 : (a1 != 0) = true := by simp [h1]
  by_cases h2 : 4294967284 < a2
  · go_enter Try.func4, Try.ntmps4
    go_wp2
    go_ret
    exact ⟨rfl, by go_grown⟩
  by_cases h3 : a3 = 0
  · subst h3
    go_enter Try.func4, Try.ntmps4
    go_wp2
    go_ret
    exact ⟨rfl, by go_grown⟩
  have e3 : (a3 != 0) = true := by simp [h3]
  by_cases h4 : a2 < a0
  · go_enter Try.func4, Try.ntmps4
    go_wp2
    go_ret
    exact ⟨rfl, by go_grown⟩
  have hp := plain a0 a1 a2 a3 (by simp [validB, h1]; omega) (by simp [validB, h3]; omega) b0.1 b2.1 (by omega)
  go_enter Try.func4, Try.ntmps4
  go_wp2_with (first | (go_at_call 9; go_in) | (go_at_call 10; go_in))
  refine (tend_any _ _ _ _ b0 b1 ?_ ?_ ?_).mono ?_
  iterate 3 (simp [go_sem])
  rintro e w1 ⟨rfl, hb1⟩
  obtain ⟨S, hS, hSn, hSB, hSc⟩ := cells_after w _ _ hb1 [(⟨w.heap.size + 1 + 1 + 1, 2, none⟩, .int .u32 a2), (⟨w.heap.size + 1 + 1 + 1, 3, none⟩, .int .u32 a3)] (by go_grown) (by simp [go_sem])
  have hz : w.heap.size + 1 + 1 + 1 < w1.heap.size := by have := hb1.size; simp at this; omega
  clear hb1
  go_wp2_with fail
  refine (offset_any _ _ _ (addO_in _ _ _ b0)).mono ?_
  rintro e w2 ⟨rfl, hb2⟩
  have hS2 := hSn _ _ hS hb2
  have hz2 := hb2.size
  clear hb2 hS
  go_wp2_with fail
  refine (tend_any _ _ _ _ b2 b3 (hSc _ hS2 (_, _) (by simp)) (hSc _ hS2 (_, _) (by simp)) (by omega)).mono ?_
  rintro e w3 ⟨rfl, hb3⟩
  have hS3 := hSn _ _ hS2 hb3
  clear hb3 hS2
  go_wp2_with fail
  refine (offset_any _ _ _ (addO_in _ _ _ b2)).mono ?_
  rintro e w4 ⟨rfl, hb4⟩
  have hB := hSB _ (hSn _ _ hS3 hb4)
  clear hb4 hS3 hSn hSB hSc
  go_wp2_with fail
  go_ret
  exact ⟨rfl, hB⟩
end Go.Proofs.Ythkkhbdhminjfaa.fnTestClauseEndMonotone
