/- The walk of FnStmtEndFromTerminator: the Go text returns true. Conditions: none beyond the kinds. -/
import Derived.Test.YtdphohobnmfbnaaStmtEnd
import Derived.Deep.RegionHeld3
namespace Go.Proofs.Ytdphohobnmfbnaa.fnStmtEndFromTerminator
open Go.RowKit
set_option linter.unusedVariables false

set_option maxHeartbeats 8000000 in
set_option maxRecDepth 100000 in
theorem walk_one (a0 a1 a4 a5 a8 a9 a11 : Int) (a6 a7 a10 : Bool) (w : World) (h0 : a0 ≤ 4294967284) (e1 : (a1 != 0) = true) (hv : validB a0 a1 = true) (b0 : 0 ≤ a0 ∧ a0 ≤ 4294967295) (b1 : 0 ≤ a1 ∧ a1 ≤ 4294967295) (qo : 0 ≤ addO a0 a1 1 ∧ addO a0 a1 1 ≤ 4294967295) (ql : 0 ≤ addLc a0 a1 1 ∧ addLc a0 a1 1 ≤ 4294967295) :
    Calls Try.prog 9 #[.int .u32 a0, .int .u32 a1, .bool false, .bool false, .int .u32 a4, .int .u32 a5, .bool a6, .bool a7, .int .u32 a8, .int .u32 a9, .bool a10, .int .u32 a11] w fun e w' => e = .returned (.bool true) ∧ Below w.heap.size w w' := by
  cases a7
  all_goals
    cases a10
    all_goals
      go_enter Try.func9, Try.ntmps9
      go_wp2_with (first | (go_at_call 40; go_in) | (go_at_call 39; go_in) | (go_at_call 41; go_in) | (go_at_call 42; refine (add1_any _ _ _ (by assumption) (by assumption)).mono ?_; rintro e w' ⟨rfl, rfl⟩))
      refine (stmtEnd_one _ _ _ _ b0 b1 hv ?_ ?_ ?_ ?_ ?_).mono ?_
      iterate 5 (simp [go_sem])
      rintro e w1 ⟨rfl, hb1⟩
      have hB1 : Below w.heap.size w w1 := below_next (by go_grown) hb1
      have hz1 := hB1.size
      clear hb1
      go_wp2_with fail
      obtain ⟨S, hS, hSn, hSB, hSc⟩ := cells_word w (w1.alloc (.cells #[.int .u32 (addO a0 a1 1), .int .u32 (addLc a0 a1 1)] 25)) [(⟨w1.heap.size, 0, none⟩, .int .u32 (addO a0 a1 1)), (⟨w1.heap.size, 1, none⟩, .int .u32 (addLc a0 a1 1))] (by go_grown) (by simp [go_sem])
      have HC := Lib.hid (show ∀ W, S W → W.cell? ⟨w1.heap.size, 0, none⟩ = some (.int .u32 (addO a0 a1 1)) ∧ W.cell? ⟨w1.heap.size, 1, none⟩ = some (.int .u32 (addLc a0 a1 1)) ∧ w1.heap.size < W.heap.size from fun W h => ⟨(hSc W h (⟨w1.heap.size, 0, none⟩, .int .u32 (addO a0 a1 1)) (by simp)).1, (hSc W h (⟨w1.heap.size, 1, none⟩, .int .u32 (addLc a0 a1 1)) (by simp)).1, (hSc W h (⟨w1.heap.size, 0, none⟩, .int .u32 (addO a0 a1 1)) (by simp)).2⟩)
      have HN := Lib.hid hSn
      have HB := Lib.hid hSB
      clear hSn hSB hSc  
      obtain ⟨c0, c1, z0⟩ := HC.out _ hS
      go_region_held3 (fun W9 => S W9 ∧ W9.cell? ⟨w1.heap.size, 0, none⟩ = some (.int .u32 (addO a0 a1 1)) ∧ W9.cell? ⟨w1.heap.size, 1, none⟩ = some (.int .u32 (addLc a0 a1 1)))
        (first | (have hS9 := hS; exact ⟨hS9, c0, c1⟩) | (have hS9 := HN.out _ _ hS (below_drew _); obtain ⟨c0, c1, z0⟩ := HC.out _ hS9; exact ⟨hS9, c0, c1⟩))
        (first | (go_at_call 40; refine (mk11_any _ _ _).mono ?_; rintro e wN ⟨rfl, hbN⟩; have hS := HN.out _ _ (And.left (by assumption)) hbN; clear hbN; obtain ⟨c0, c1, z0⟩ := HC.out _ hS))
      go_wp2_with fail
      go_ret
      exact ⟨by simp, HB.out _ hS⟩
set_option maxHeartbeats 8000000 in
set_option maxRecDepth 100000 in
theorem walk_two (a0 a1 a4 a5 a8 a9 a11 : Int) (a6 a7 a10 : Bool) (c d : Bool) (hcd : c = true ∨ (c = false ∧ d = true)) (w : World) (h0 : a0 ≤ 4294967284) (e1 : (a1 != 0) = true) (hv : validB a0 a1 = true) (b0 : 0 ≤ a0 ∧ a0 ≤ 4294967295) (b1 : 0 ≤ a1 ∧ a1 ≤ 4294967295) (qo : 0 ≤ addO a0 a1 1 ∧ addO a0 a1 1 ≤ 4294967295) (ql : 0 ≤ addLc a0 a1 1 ∧ addLc a0 a1 1 ≤ 4294967295) :
    Calls Try.prog 9 #[.int .u32 a0, .int .u32 a1, .bool c, .bool d, .int .u32 a4, .int .u32 a5, .bool a6, .bool a7, .int .u32 a8, .int .u32 a9, .bool a10, .int .u32 a11] w fun e w' => e = .returned (.bool true) ∧ Below w.heap.size w w' := by
  cases a7
  all_goals
    cases a10
    all_goals
      have hcd2 : (c || d) = true := by rcases hcd with rfl | ⟨rfl, rfl⟩ <;> simp
      rcases hcd with rfl | ⟨rfl, rfl⟩
      all_goals
        go_enter Try.func9, Try.ntmps9
        go_wp2_with (first | (go_at_call 40; go_in) | (go_at_call 39; go_in) | (go_at_call 41; go_in) | (go_at_call 42; refine (add1_any _ _ _ (by assumption) (by assumption)).mono ?_; rintro e w' ⟨rfl, rfl⟩))
        refine (stmtEnd_two _ _ _ hcd2 _ _ _ b0 b1 hv ?_ ?_ ?_ ?_ ?_).mono ?_
        iterate 5 (simp [go_sem])
        rintro e w1 ⟨rfl, hb1⟩
        have hB1 : Below w.heap.size w w1 := below_next (by go_grown) hb1
        have hz1 := hB1.size
        clear hb1
        go_wp2_with fail
        obtain ⟨S, hS, hSn, hSB, hSc⟩ := cells_word w (w1.alloc (.cells #[.int .u32 (addO (addO a0 a1 1) (addLc a0 a1 1) 1), .int .u32 (addLc (addO a0 a1 1) (addLc a0 a1 1) 1)] 25)) [(⟨w1.heap.size, 0, none⟩, .int .u32 (addO (addO a0 a1 1) (addLc a0 a1 1) 1)), (⟨w1.heap.size, 1, none⟩, .int .u32 (addLc (addO a0 a1 1) (addLc a0 a1 1) 1))] (by go_grown) (by simp [go_sem])
        have HC := Lib.hid (show ∀ W, S W → W.cell? ⟨w1.heap.size, 0, none⟩ = some (.int .u32 (addO (addO a0 a1 1) (addLc a0 a1 1) 1)) ∧ W.cell? ⟨w1.heap.size, 1, none⟩ = some (.int .u32 (addLc (addO a0 a1 1) (addLc a0 a1 1) 1)) ∧ w1.heap.size < W.heap.size from fun W h => ⟨(hSc W h (⟨w1.heap.size, 0, none⟩, .int .u32 (addO (addO a0 a1 1) (addLc a0 a1 1) 1)) (by simp)).1, (hSc W h (⟨w1.heap.size, 1, none⟩, .int .u32 (addLc (addO a0 a1 1) (addLc a0 a1 1) 1)) (by simp)).1, (hSc W h (⟨w1.heap.size, 0, none⟩, .int .u32 (addO (addO a0 a1 1) (addLc a0 a1 1) 1)) (by simp)).2⟩)
        have HN := Lib.hid hSn
        have HB := Lib.hid hSB
        clear hSn hSB hSc  
        obtain ⟨c0, c1, z0⟩ := HC.out _ hS
        go_region_held3 (fun W9 => S W9 ∧ W9.cell? ⟨w1.heap.size, 0, none⟩ = some (.int .u32 (addO (addO a0 a1 1) (addLc a0 a1 1) 1)) ∧ W9.cell? ⟨w1.heap.size, 1, none⟩ = some (.int .u32 (addLc (addO a0 a1 1) (addLc a0 a1 1) 1)))
          (first | (have hS9 := hS; exact ⟨hS9, c0, c1⟩) | (have hS9 := HN.out _ _ hS (below_drew _); obtain ⟨c0, c1, z0⟩ := HC.out _ hS9; exact ⟨hS9, c0, c1⟩))
          (first | (go_at_call 40; refine (mk11_any _ _ _).mono ?_; rintro e wN ⟨rfl, hbN⟩; have hS := HN.out _ _ (And.left (by assumption)) hbN; clear hbN; obtain ⟨c0, c1, z0⟩ := HC.out _ hS))
        go_wp2_with fail
        go_ret
        exact ⟨by simp, HB.out _ hS⟩

set_option maxHeartbeats 2000000 in
theorem walk (a0 : Int) (a1 : Int) (a2 : Bool) (a3 : Bool) (a4 : Int) (a5 : Int) (a6 : Bool) (a7 : Bool) (a8 : Int) (a9 : Int) (a10 : Bool) (a11 : Int) (w : World) (w0 : (Lit.int .u32 a0).wf = true) (w1 : (Lit.int .u32 a1).wf = true) (w4 : (Lit.int .u32 a4).wf = true) (w5 : (Lit.int .u32 a5).wf = true) (w8 : (Lit.int .u32 a8).wf = true) (w9 : (Lit.int .u32 a9).wf = true) (w11 : (Lit.int .u32 a11).wf = true) :
    Calls Try.prog 9 #[.int .u32 a0, .int .u32 a1, .bool a2, .bool a3, .int .u32 a4, .int .u32 a5, .bool a6, .bool a7, .int .u32 a8, .int .u32 a9, .bool a10, .int .u32 a11] w fun e w' => e = .returned (.bool true) ∧ Below w.heap.size w w' := by
  have b0 := bounds_u32 w0
  have b1 := bounds_u32 w1
  have b4 := bounds_u32 w4
  have b5 := bounds_u32 w5
  have b8 := bounds_u32 w8
  have b9 := bounds_u32 w9
  have b11 := bounds_u32 w11
  clear w0 w1 w4 w5 w8 w9 w11
  by_cases h0 : 4294967284 < a0
  · go_enter Try.func9, Try.ntmps9
    go_wp2
    go_ret
    exact ⟨rfl, by go_grown⟩
  by_cases h1 : a1 = 0
  · subst h1
    go_enter Try.func9, Try.ntmps9
    go_wp2
    go_ret
    exact ⟨rfl, by go_grown⟩
  have eh1 : (a1 != 0) = true := by simp [h1]
  have hv : validB a0 a1 = true := by simp [validB, h1]; omega
  have qo := addO_in a0 a1 1 b0
  have ql := addLc_in a0 a1 1 b1
  cases a2
  · cases a3
    · exact walk_one a0 a1 a4 a5 a8 a9 a11 a6 a7 a10 w (by omega) eh1 hv b0 b1 qo ql
    · exact walk_two a0 a1 a4 a5 a8 a9 a11 a6 a7 a10 false true (Or.inr ⟨rfl, rfl⟩) w (by omega) eh1 hv b0 b1 qo ql
  · exact walk_two a0 a1 a4 a5 a8 a9 a11 a6 a7 a10 true a3 (Or.inl rfl) w (by omega) eh1 hv b0 b1 qo ql
end Go.Proofs.Ytdphohobnmfbnaa.fnStmtEndFromTerminator
