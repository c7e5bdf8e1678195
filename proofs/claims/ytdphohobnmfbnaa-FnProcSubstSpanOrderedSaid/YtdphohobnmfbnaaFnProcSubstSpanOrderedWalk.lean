/- The walk of FnProcSubstSpanOrdered: the Go text returns true. Conditions: none beyond the kinds. -/
import Derived.Test.YtdphohobnmfbnaaEnds
import Derived.OpenShut
import Derived.Outline
namespace Go.Proofs.Ytdphohobnmfbnaa.fnProcSubstSpanOrdered
open Go.RowKit
set_option linter.unusedVariables false

theorem plain (o1 l1 o2 l2 : Int) (h : o1 ≤ o2) (h2 : o2 < 4294967284) (b1 : 0 ≤ o1) (hl : 0 ≤ l2) (hq : l2 / 16384 ≠ 0) :
    validB (addO o2 l2 1) (addLc o2 l2 1) = true ∧ o1 < addO o2 l2 1 ∧ ¬ addO o2 l2 1 < o1 := by
  have hv : validB o2 l2 = true := by simp [validB]; omega
  have hc := addCol_in l2 1
  have e1 : addO o2 l2 1 = o2 + 1 := by rw [addO, if_pos hv]; (repeat' split) <;> omega
  have e2 : addLc o2 l2 1 = l2 / 16384 * 16384 + addCol l2 1 := by rw [addLc, if_pos hv]
  rw [e1, e2]
  refine ⟨by simp [validB]; omega, by omega, by omega⟩

set_option maxHeartbeats 2000000 in
theorem walk (a0 a1 a2 a3 a4 : Int) (w : World) (w0 : (Lit.int .u32 a0).wf = true) (w1 : (Lit.int .u32 a1).wf = true) (w2 : (Lit.int .u32 a2).wf = true) (w3 : (Lit.int .u32 a3).wf = true) (w4 : (Lit.int .u8 a4).wf = true) :
    Calls Try.prog 4 #[.int .u32 a0, .int .u32 a1, .int .u32 a2, .int .u32 a3, .int .u8 a4] w fun e w' => e = .returned (.bool true) ∧ Below w.heap.size w w' := by
  have b0 := bounds_u32 w0
  have b1 := bounds_u32 w1
  have b2 := bounds_u32 w2
  have b3 := bounds_u32 w3
  have b4 := bounds_u8 w4
  clear w0 w1 w2 w3 w4
  by_cases h0 : 4294967284 < a0
  · go_enter Try.func4, Try.ntmps4
    go_wp2
    go_ret
    exact ⟨rfl, by go_grown⟩
  by_cases h1 : a1 = 0
  · subst h1
    go_enter Try.func4, Try.ntmps4
    go_wp2
    go_ret
    exact ⟨rfl, by go_grown⟩
  have e1 : (a1 != 0) = true := by simp [h1]
  by_cases h2 : 4294967284 < a2
  · go_enter Try.func4, Try.ntmps4
    go_wp2
    go_ret
    exact ⟨rfl, by go_grown⟩
  by_cases h3 : a3 = 0
  · subst h3
    go_enter Try.func4, Try.ntmps4
    go_wp2
    go_ret
    exact ⟨rfl, by go_grown⟩
  have e3 : (a3 != 0) = true := by simp [h3]
  by_cases h4 : a2 < a0
  · go_enter Try.func4, Try.ntmps4
    go_wp2
    go_ret
    exact ⟨rfl, by go_grown⟩
  by_cases h5 : 4294967284 ≤ a2
  · go_enter Try.func4, Try.ntmps4
    go_wp2
    go_ret
    exact ⟨rfl, by go_grown⟩
  by_cases h6 : a3 / 16384 = 0
  · have e6 : (a3 / 16384 == 0) = true := by simp [h6]
    clear h6
    go_enter Try.func4, Try.ntmps4
    go_wp2
    go_ret
    exact ⟨rfl, by go_grown⟩
  have e6 : (a3 / 16384 == 0) = false := by simp [h6]
  by_cases h7 : 3 ≤ a4
  · go_enter Try.func4, Try.ntmps4
    go_wp2
    go_ret
    exact ⟨rfl, by go_grown⟩
  obtain ⟨p1, p2, p3⟩ := plain a0 a1 a2 a3 (by omega) (by omega) b0.1 b3.1 h6
  have q1 := addO_in a2 a3 1 b2
  have q2 := addLc_in a2 a3 1 b3
  have p4 : decide (addO a2 a3 1 < a0) = false := by simpa using p3
  clear p3 h1 h3 h6
  go_enter Try.func4, Try.ntmps4
  go_wp2_with (first | (go_at_call 21; go_in) | (go_at_call 16; go_in))
  refine (procEnd_any _ _ _ _ b2 b3 ?_ ?_ ?_).mono ?_
  iterate 3 (simp [go_sem])
  rintro e w1 ⟨rfl, hb1⟩
  obtain ⟨S, hS, hSn, hSB, hSc⟩ := cells_after w _ _ hb1 [(⟨w.heap.size + 1 + 1, 0, none⟩, .int .u32 a0), (⟨w.heap.size + 1 + 1, 1, none⟩, .int .u32 a1), (⟨w.heap.size + 1 + 1, 2, none⟩, .int .u32 a2), (⟨w.heap.size + 1 + 1, 3, none⟩, .int .u32 a3)] (by go_grown) (by simp [go_sem])
  have HC := Lib.hid (show ∀ W, S W → W.cell? ⟨w.heap.size + 1 + 1, 0, none⟩ = some (.int .u32 a0) ∧ W.cell? ⟨w.heap.size + 1 + 1, 1, none⟩ = some (.int .u32 a1) ∧ W.cell? ⟨w.heap.size + 1 + 1, 2, none⟩ = some (.int .u32 a2) ∧ W.cell? ⟨w.heap.size + 1 + 1, 3, none⟩ = some (.int .u32 a3) ∧ w.heap.size + 1 + 1 < W.heap.size from fun W h => ⟨(hSc W h (⟨w.heap.size + 1 + 1, 0, none⟩, .int .u32 a0) (by simp)).1, (hSc W h (⟨w.heap.size + 1 + 1, 1, none⟩, .int .u32 a1) (by simp)).1, (hSc W h (⟨w.heap.size + 1 + 1, 2, none⟩, .int .u32 a2) (by simp)).1, (hSc W h (⟨w.heap.size + 1 + 1, 3, none⟩, .int .u32 a3) (by simp)).1, (hSc W h (⟨w.heap.size + 1 + 1, 0, none⟩, .int .u32 a0) (by simp)).2⟩)
  have HN := Lib.hid hSn
  have HB := Lib.hid hSB
  clear hSn hSB hSc hb1 
  obtain ⟨c0, c1, c2, c3, z0⟩ := HC.out _ hS
  go_wp2_with fail
  refine (procPos_any _ _ _ _ c0 c1 z0).mono ?_
  rintro e wN ⟨rfl, hbN⟩
  have hS := HN.out _ _ hS hbN
  clear hbN c0 c1 c2 c3 z0
  obtain ⟨c0, c1, c2, c3, z0⟩ := HC.out _ hS
  go_wp2_with fail
  refine (after_any _ _ _ _ _ q1 q2).mono ?_
  rintro e wN ⟨rfl, hbN⟩
  have hS := HN.out _ _ hS hbN
  clear hbN c0 c1 c2 c3 z0
  obtain ⟨c0, c1, c2, c3, z0⟩ := HC.out _ hS
  go_wp2_with fail
  refine (procPos_any _ _ _ _ c0 c1 z0).mono ?_
  rintro e wN ⟨rfl, hbN⟩
  have hS := HN.out _ _ hS hbN
  clear hbN c0 c1 c2 c3 z0
  obtain ⟨c0, c1, c2, c3, z0⟩ := HC.out _ hS
  go_wp2_with fail
  refine (procEnd_any _ _ _ _ b2 b3 c2 c3 z0).mono ?_
  rintro e wN ⟨rfl, hbN⟩
  have hS := HN.out _ _ hS hbN
  clear hbN c0 c1 c2 c3 z0
  obtain ⟨c0, c1, c2, c3, z0⟩ := HC.out _ hS
  go_wp2_with fail
  refine (after_any _ _ _ _ _ b0 b1).mono ?_
  rintro e wN ⟨rfl, hbN⟩
  have hS := HN.out _ _ hS hbN
  clear hbN c0 c1 c2 c3 z0
  obtain ⟨c0, c1, c2, c3, z0⟩ := HC.out _ hS
  go_wp2_with fail
  go_ret
  exact ⟨rfl, HB.out _ hS⟩
end Go.Proofs.Ytdphohobnmfbnaa.fnProcSubstSpanOrdered
