/- The walk of FnRemoveNegateTestCaseTable: the Go text returns true. Conditions: none. -/
import Derived.Test.YtoankohalfnemaaAsserts
import Derived.Test.YtoankohalfnemaaKit
import Derived.Handy
import Derived.Outline
import Derived.Deep.QuietTactic
import Derived.BigQuiet
import Derived.OpenShut
namespace Go.Proofs.Ytoankohalfnemaa.fnRemoveNegateTestCaseTable
open Go.RowKit
set_option linter.unusedVariables false
theorem drewN_of {B : Nat} {w W : World} {n : Nat} (h : Below B w W) : Below B w (W.drewN n) := h.trans ⟨rfl, rfl, rfl, Nat.le_refl _, fun _ _ => rfl⟩

set_option maxRecDepth 100000 in
set_option maxHeartbeats 2000000 in
theorem c_plain (o : Int) (k : Int) (d : Int) (s : ByteArray) (hs : s.size ≤ 1048576) (w : World)  :
    Calls Try.prog 9 #[.bool false, .int .u32 o, .int .i64 k, .int .u32 d, .string s] w fun e w' => e = .returned (.bool true) ∧ Below w.heap.size w w' := by
  have A0 := as_TestExpr_Word_Word
  have A1 := as_TestExpr_UnaryTest_Word
  have A2 := as_TestExpr_BinaryTest_Word
  have A3 := as_TestExpr_ParenTest_Word
  have E4 := eq_Word
  have A4 := as_TestExpr_Word_UnaryTest
  have A5 := as_TestExpr_UnaryTest_UnaryTest
  have A6 := as_TestExpr_BinaryTest_UnaryTest
  have A7 := as_TestExpr_ParenTest_UnaryTest
  have E8 := eq_UnaryTest
  have A8 := as_TestExpr_Word_BinaryTest
  have A9 := as_TestExpr_UnaryTest_BinaryTest
  have A10 := as_TestExpr_BinaryTest_BinaryTest
  have A11 := as_TestExpr_ParenTest_BinaryTest
  have E12 := eq_BinaryTest
  go_enter Try.func9, Try.ntmps9
  go_wp2_with (first | (go_at_call 34; go_in) | (go_at_call 35; go_in) | (go_at_call 38; go_in) | (go_at_call 36; go_in) | (go_at_call 50; go_in))
  go_quiet (fail)
  go_wp2_with (first | (go_at_call 38; go_in) | (go_at_call 37; go_in) | (go_at_call 39; go_in) | (go_at_call 40; go_in))
  go_ret
  exact ⟨rfl, drewN_of (by go_grown)⟩
set_option maxRecDepth 100000 in
set_option maxHeartbeats 2000000 in
theorem c_o1 (o : Int) (d : Int) (s : ByteArray) (hs : s.size ≤ 1048576) (w : World) (ho39 : (o == 39) = false) (go39 : (o != 39) = true) :
    Calls Try.prog 9 #[.bool true, .int .u32 o, .int .i64 1, .int .u32 d, .string s] w fun e w' => e = .returned (.bool true) ∧ Below w.heap.size w w' := by
  have A0 := as_TestExpr_Word_Word
  have A1 := as_TestExpr_UnaryTest_Word
  have A2 := as_TestExpr_BinaryTest_Word
  have A3 := as_TestExpr_ParenTest_Word
  have E4 := eq_Word
  have A4 := as_TestExpr_Word_UnaryTest
  have A5 := as_TestExpr_UnaryTest_UnaryTest
  have A6 := as_TestExpr_BinaryTest_UnaryTest
  have A7 := as_TestExpr_ParenTest_UnaryTest
  have E8 := eq_UnaryTest
  have A8 := as_TestExpr_Word_BinaryTest
  have A9 := as_TestExpr_UnaryTest_BinaryTest
  have A10 := as_TestExpr_BinaryTest_BinaryTest
  have A11 := as_TestExpr_ParenTest_BinaryTest
  have E12 := eq_BinaryTest
  go_enter Try.func9, Try.ntmps9
  go_wp2_with (first | (go_at_call 34; go_in) | (go_at_call 35; go_in) | (go_at_call 38; go_in) | (go_at_call 36; go_in) | (go_at_call 50; go_in))
  go_quiet (fail)
  go_wp2_with (first | (go_at_call 38; go_in) | (go_at_call 37; go_in) | (go_at_call 39; go_in) | (go_at_call 40; go_in))
  go_ret
  exact ⟨rfl, drewN_of (by go_grown)⟩
set_option maxRecDepth 100000 in
set_option maxHeartbeats 2000000 in
theorem c_o2 (o : Int) (d : Int) (s : ByteArray) (hs : s.size ≤ 1048576) (w : World) (ho39 : (o == 39) = false) (go39 : (o != 39) = true) :
    Calls Try.prog 9 #[.bool true, .int .u32 o, .int .i64 2, .int .u32 d, .string s] w fun e w' => e = .returned (.bool true) ∧ Below w.heap.size w w' := by
  have A0 := as_TestExpr_Word_Word
  have A1 := as_TestExpr_UnaryTest_Word
  have A2 := as_TestExpr_BinaryTest_Word
  have A3 := as_TestExpr_ParenTest_Word
  have E4 := eq_Word
  have A4 := as_TestExpr_Word_UnaryTest
  have A5 := as_TestExpr_UnaryTest_UnaryTest
  have A6 := as_TestExpr_BinaryTest_UnaryTest
  have A7 := as_TestExpr_ParenTest_UnaryTest
  have E8 := eq_UnaryTest
  have A8 := as_TestExpr_Word_BinaryTest
  have A9 := as_TestExpr_UnaryTest_BinaryTest
  have A10 := as_TestExpr_BinaryTest_BinaryTest
  have A11 := as_TestExpr_ParenTest_BinaryTest
  have E12 := eq_BinaryTest
  go_enter Try.func9, Try.ntmps9
  go_wp2_with (first | (go_at_call 34; go_in) | (go_at_call 35; go_in) | (go_at_call 38; go_in) | (go_at_call 36; go_in) | (go_at_call 50; go_in))
  go_quiet (fail)
  go_wp2_with (first | (go_at_call 38; go_in) | (go_at_call 37; go_in) | (go_at_call 39; go_in) | (go_at_call 40; go_in))
  go_ret
  exact ⟨rfl, drewN_of (by go_grown)⟩
set_option maxRecDepth 100000 in
set_option maxHeartbeats 2000000 in
theorem c_o3 (o : Int) (d : Int) (s : ByteArray) (hs : s.size ≤ 1048576) (w : World) (ho39 : (o == 39) = false) (go39 : (o != 39) = true) :
    Calls Try.prog 9 #[.bool true, .int .u32 o, .int .i64 3, .int .u32 d, .string s] w fun e w' => e = .returned (.bool true) ∧ Below w.heap.size w w' := by
  have A0 := as_TestExpr_Word_Word
  have A1 := as_TestExpr_UnaryTest_Word
  have A2 := as_TestExpr_BinaryTest_Word
  have A3 := as_TestExpr_ParenTest_Word
  have E4 := eq_Word
  have A4 := as_TestExpr_Word_UnaryTest
  have A5 := as_TestExpr_UnaryTest_UnaryTest
  have A6 := as_TestExpr_BinaryTest_UnaryTest
  have A7 := as_TestExpr_ParenTest_UnaryTest
  have E8 := eq_UnaryTest
  have A8 := as_TestExpr_Word_BinaryTest
  have A9 := as_TestExpr_UnaryTest_BinaryTest
  have A10 := as_TestExpr_BinaryTest_BinaryTest
  have A11 := as_TestExpr_ParenTest_BinaryTest
  have E12 := eq_BinaryTest
  go_enter Try.func9, Try.ntmps9
  go_wp2_with (first | (go_at_call 34; go_in) | (go_at_call 35; go_in) | (go_at_call 38; go_in) | (go_at_call 36; go_in) | (go_at_call 50; go_in))
  go_quiet (fail)
  go_wp2_with (first | (go_at_call 38; go_in) | (go_at_call 37; go_in) | (go_at_call 39; go_in) | (go_at_call 40; go_in))
  go_ret
  exact ⟨rfl, drewN_of (by go_grown)⟩
set_option maxRecDepth 100000 in
set_option maxHeartbeats 2000000 in
theorem c_o4 (o : Int) (k : Int) (d : Int) (s : ByteArray) (hs : s.size ≤ 1048576) (w : World) (ho39 : (o == 39) = false) (go39 : (o != 39) = true) (hk1 : (k == 1) = false) (gk1 : (k != 1) = true) (hk2 : (k == 2) = false) (gk2 : (k != 2) = true) (hk3 : (k == 3) = false) (gk3 : (k != 3) = true) :
    Calls Try.prog 9 #[.bool true, .int .u32 o, .int .i64 k, .int .u32 d, .string s] w fun e w' => e = .returned (.bool true) ∧ Below w.heap.size w w' := by
  have A0 := as_TestExpr_Word_Word
  have A1 := as_TestExpr_UnaryTest_Word
  have A2 := as_TestExpr_BinaryTest_Word
  have A3 := as_TestExpr_ParenTest_Word
  have E4 := eq_Word
  have A4 := as_TestExpr_Word_UnaryTest
  have A5 := as_TestExpr_UnaryTest_UnaryTest
  have A6 := as_TestExpr_BinaryTest_UnaryTest
  have A7 := as_TestExpr_ParenTest_UnaryTest
  have E8 := eq_UnaryTest
  have A8 := as_TestExpr_Word_BinaryTest
  have A9 := as_TestExpr_UnaryTest_BinaryTest
  have A10 := as_TestExpr_BinaryTest_BinaryTest
  have A11 := as_TestExpr_ParenTest_BinaryTest
  have E12 := eq_BinaryTest
  go_enter Try.func9, Try.ntmps9
  go_wp2_with (first | (go_at_call 34; go_in) | (go_at_call 35; go_in) | (go_at_call 38; go_in) | (go_at_call 36; go_in) | (go_at_call 50; go_in))
  go_quiet (fail)
  go_wp2_with (first | (go_at_call 38; go_in) | (go_at_call 37; go_in) | (go_at_call 39; go_in) | (go_at_call 40; go_in))
  go_ret
  exact ⟨rfl, drewN_of (by go_grown)⟩
set_option maxRecDepth 100000 in
set_option maxHeartbeats 2000000 in
theorem c_11  (s : ByteArray) (hs : s.size ≤ 1048576) (w : World)  :
    Calls Try.prog 9 #[.bool true, .int .u32 39, .int .i64 1, .int .u32 124, .string s] w fun e w' => e = .returned (.bool true) ∧ Below w.heap.size w w' := by
  have A0 := as_TestExpr_Word_Word
  have A1 := as_TestExpr_UnaryTest_Word
  have A2 := as_TestExpr_BinaryTest_Word
  have A3 := as_TestExpr_ParenTest_Word
  have E4 := eq_Word
  have A4 := as_TestExpr_Word_UnaryTest
  have A5 := as_TestExpr_UnaryTest_UnaryTest
  have A6 := as_TestExpr_BinaryTest_UnaryTest
  have A7 := as_TestExpr_ParenTest_UnaryTest
  have E8 := eq_UnaryTest
  have A8 := as_TestExpr_Word_BinaryTest
  have A9 := as_TestExpr_UnaryTest_BinaryTest
  have A10 := as_TestExpr_BinaryTest_BinaryTest
  have A11 := as_TestExpr_ParenTest_BinaryTest
  have E12 := eq_BinaryTest
  go_enter Try.func9, Try.ntmps9
  go_wp2_with (first | (go_at_call 34; go_in) | (go_at_call 35; go_in) | (go_at_call 38; go_in) | (go_at_call 36; go_in) | (go_at_call 50; go_in))
  go_quiet (fail)
  go_wp2_with (first | (go_at_call 38; go_in) | (go_at_call 37; go_in) | (go_at_call 39; go_in) | (go_at_call 40; go_in))
  go_ret
  exact ⟨rfl, drewN_of (by go_grown)⟩
set_option maxRecDepth 100000 in
set_option maxHeartbeats 2000000 in
theorem c_12  (s : ByteArray) (hs : s.size ≤ 1048576) (w : World)  :
    Calls Try.prog 9 #[.bool true, .int .u32 39, .int .i64 1, .int .u32 125, .string s] w fun e w' => e = .returned (.bool true) ∧ Below w.heap.size w w' := by
  have A0 := as_TestExpr_Word_Word
  have A1 := as_TestExpr_UnaryTest_Word
  have A2 := as_TestExpr_BinaryTest_Word
  have A3 := as_TestExpr_ParenTest_Word
  have E4 := eq_Word
  have A4 := as_TestExpr_Word_UnaryTest
  have A5 := as_TestExpr_UnaryTest_UnaryTest
  have A6 := as_TestExpr_BinaryTest_UnaryTest
  have A7 := as_TestExpr_ParenTest_UnaryTest
  have E8 := eq_UnaryTest
  have A8 := as_TestExpr_Word_BinaryTest
  have A9 := as_TestExpr_UnaryTest_BinaryTest
  have A10 := as_TestExpr_BinaryTest_BinaryTest
  have A11 := as_TestExpr_ParenTest_BinaryTest
  have E12 := eq_BinaryTest
  go_enter Try.func9, Try.ntmps9
  go_wp2_with (first | (go_at_call 34; go_in) | (go_at_call 35; go_in) | (go_at_call 38; go_in) | (go_at_call 36; go_in) | (go_at_call 50; go_in))
  go_quiet (fail)
  go_wp2_with (first | (go_at_call 38; go_in) | (go_at_call 37; go_in) | (go_at_call 39; go_in) | (go_at_call 40; go_in))
  go_ret
  exact ⟨rfl, drewN_of (by go_grown)⟩
set_option maxRecDepth 100000 in
set_option maxHeartbeats 2000000 in
theorem c_13  (s : ByteArray) (hs : s.size ≤ 1048576) (w : World)  :
    Calls Try.prog 9 #[.bool true, .int .u32 39, .int .i64 1, .int .u32 39, .string s] w fun e w' => e = .returned (.bool true) ∧ Below w.heap.size w w' := by
  have A0 := as_TestExpr_Word_Word
  have A1 := as_TestExpr_UnaryTest_Word
  have A2 := as_TestExpr_BinaryTest_Word
  have A3 := as_TestExpr_ParenTest_Word
  have E4 := eq_Word
  have A4 := as_TestExpr_Word_UnaryTest
  have A5 := as_TestExpr_UnaryTest_UnaryTest
  have A6 := as_TestExpr_BinaryTest_UnaryTest
  have A7 := as_TestExpr_ParenTest_UnaryTest
  have E8 := eq_UnaryTest
  have A8 := as_TestExpr_Word_BinaryTest
  have A9 := as_TestExpr_UnaryTest_BinaryTest
  have A10 := as_TestExpr_BinaryTest_BinaryTest
  have A11 := as_TestExpr_ParenTest_BinaryTest
  have E12 := eq_BinaryTest
  go_enter Try.func9, Try.ntmps9
  go_wp2_with (first | (go_at_call 34; go_in) | (go_at_call 35; go_in) | (go_at_call 38; go_in) | (go_at_call 36; go_in) | (go_at_call 50; go_in))
  go_quiet (fail)
  go_wp2_with (first | (go_at_call 38; go_in) | (go_at_call 37; go_in) | (go_at_call 39; go_in) | (go_at_call 40; go_in))
  go_ret
  exact ⟨rfl, drewN_of (by go_grown)⟩
set_option maxRecDepth 100000 in
set_option maxHeartbeats 2000000 in
theorem c_14 (d : Int) (s : ByteArray) (hs : s.size ≤ 1048576) (w : World) (hd124 : (d == 124) = false) (gd124 : (d != 124) = true) (hd125 : (d == 125) = false) (gd125 : (d != 125) = true) (hd39 : (d == 39) = false) (gd39 : (d != 39) = true) :
    Calls Try.prog 9 #[.bool true, .int .u32 39, .int .i64 1, .int .u32 d, .string s] w fun e w' => e = .returned (.bool true) ∧ Below w.heap.size w w' := by
  have A0 := as_TestExpr_Word_Word
  have A1 := as_TestExpr_UnaryTest_Word
  have A2 := as_TestExpr_BinaryTest_Word
  have A3 := as_TestExpr_ParenTest_Word
  have E4 := eq_Word
  have A4 := as_TestExpr_Word_UnaryTest
  have A5 := as_TestExpr_UnaryTest_UnaryTest
  have A6 := as_TestExpr_BinaryTest_UnaryTest
  have A7 := as_TestExpr_ParenTest_UnaryTest
  have E8 := eq_UnaryTest
  have A8 := as_TestExpr_Word_BinaryTest
  have A9 := as_TestExpr_UnaryTest_BinaryTest
  have A10 := as_TestExpr_BinaryTest_BinaryTest
  have A11 := as_TestExpr_ParenTest_BinaryTest
  have E12 := eq_BinaryTest
  go_enter Try.func9, Try.ntmps9
  go_wp2_with (first | (go_at_call 34; go_in) | (go_at_call 35; go_in) | (go_at_call 38; go_in) | (go_at_call 36; go_in) | (go_at_call 50; go_in))
  go_quiet (fail)
  go_wp2_with (first | (go_at_call 38; go_in) | (go_at_call 37; go_in) | (go_at_call 39; go_in) | (go_at_call 40; go_in))
  go_ret
  exact ⟨rfl, drewN_of (by go_grown)⟩
set_option maxRecDepth 100000 in
set_option maxHeartbeats 2000000 in
theorem c_21  (s : ByteArray) (hs : s.size ≤ 1048576) (w : World)  :
    Calls Try.prog 9 #[.bool true, .int .u32 39, .int .i64 2, .int .u32 45, .string s] w fun e w' => e = .returned (.bool true) ∧ Below w.heap.size w w' := by
  have A0 := as_TestExpr_Word_Word
  have A1 := as_TestExpr_UnaryTest_Word
  have A2 := as_TestExpr_BinaryTest_Word
  have A3 := as_TestExpr_ParenTest_Word
  have E4 := eq_Word
  have A4 := as_TestExpr_Word_UnaryTest
  have A5 := as_TestExpr_UnaryTest_UnaryTest
  have A6 := as_TestExpr_BinaryTest_UnaryTest
  have A7 := as_TestExpr_ParenTest_UnaryTest
  have E8 := eq_UnaryTest
  have A8 := as_TestExpr_Word_BinaryTest
  have A9 := as_TestExpr_UnaryTest_BinaryTest
  have A10 := as_TestExpr_BinaryTest_BinaryTest
  have A11 := as_TestExpr_ParenTest_BinaryTest
  have E12 := eq_BinaryTest
  go_enter Try.func9, Try.ntmps9
  go_wp2_with (first | (go_at_call 34; go_in) | (go_at_call 35; go_in) | (go_at_call 38; go_in) | (go_at_call 36; go_in) | (go_at_call 50; go_in))
  go_quiet (fail)
  go_wp2_with (first | (go_at_call 38; go_in) | (go_at_call 37; go_in) | (go_at_call 39; go_in) | (go_at_call 40; go_in))
  go_ret
  exact ⟨rfl, drewN_of (by go_grown)⟩
set_option maxRecDepth 100000 in
set_option maxHeartbeats 2000000 in
theorem c_22  (s : ByteArray) (hs : s.size ≤ 1048576) (w : World)  :
    Calls Try.prog 9 #[.bool true, .int .u32 39, .int .i64 2, .int .u32 46, .string s] w fun e w' => e = .returned (.bool true) ∧ Below w.heap.size w w' := by
  have A0 := as_TestExpr_Word_Word
  have A1 := as_TestExpr_UnaryTest_Word
  have A2 := as_TestExpr_BinaryTest_Word
  have A3 := as_TestExpr_ParenTest_Word
  have E4 := eq_Word
  have A4 := as_TestExpr_Word_UnaryTest
  have A5 := as_TestExpr_UnaryTest_UnaryTest
  have A6 := as_TestExpr_BinaryTest_UnaryTest
  have A7 := as_TestExpr_ParenTest_UnaryTest
  have E8 := eq_UnaryTest
  have A8 := as_TestExpr_Word_BinaryTest
  have A9 := as_TestExpr_UnaryTest_BinaryTest
  have A10 := as_TestExpr_BinaryTest_BinaryTest
  have A11 := as_TestExpr_ParenTest_BinaryTest
  have E12 := eq_BinaryTest
  go_enter Try.func9, Try.ntmps9
  go_wp2_with (first | (go_at_call 34; go_in) | (go_at_call 35; go_in) | (go_at_call 38; go_in) | (go_at_call 36; go_in) | (go_at_call 50; go_in))
  go_quiet (fail)
  go_wp2_with (first | (go_at_call 38; go_in) | (go_at_call 37; go_in) | (go_at_call 39; go_in) | (go_at_call 40; go_in))
  go_ret
  exact ⟨rfl, drewN_of (by go_grown)⟩
set_option maxRecDepth 100000 in
set_option maxHeartbeats 2000000 in
theorem c_23 (d : Int) (s : ByteArray) (hs : s.size ≤ 1048576) (w : World) (hd45 : (d == 45) = false) (gd45 : (d != 45) = true) (hd46 : (d == 46) = false) (gd46 : (d != 46) = true) :
    Calls Try.prog 9 #[.bool true, .int .u32 39, .int .i64 2, .int .u32 d, .string s] w fun e w' => e = .returned (.bool true) ∧ Below w.heap.size w w' := by
  have A0 := as_TestExpr_Word_Word
  have A1 := as_TestExpr_UnaryTest_Word
  have A2 := as_TestExpr_BinaryTest_Word
  have A3 := as_TestExpr_ParenTest_Word
  have E4 := eq_Word
  have A4 := as_TestExpr_Word_UnaryTest
  have A5 := as_TestExpr_UnaryTest_UnaryTest
  have A6 := as_TestExpr_BinaryTest_UnaryTest
  have A7 := as_TestExpr_ParenTest_UnaryTest
  have E8 := eq_UnaryTest
  have A8 := as_TestExpr_Word_BinaryTest
  have A9 := as_TestExpr_UnaryTest_BinaryTest
  have A10 := as_TestExpr_BinaryTest_BinaryTest
  have A11 := as_TestExpr_ParenTest_BinaryTest
  have E12 := eq_BinaryTest
  go_enter Try.func9, Try.ntmps9
  go_wp2_with (first | (go_at_call 34; go_in) | (go_at_call 35; go_in) | (go_at_call 38; go_in) | (go_at_call 36; go_in) | (go_at_call 50; go_in))
  go_quiet (fail)
  go_wp2_with (first | (go_at_call 38; go_in) | (go_at_call 37; go_in) | (go_at_call 39; go_in) | (go_at_call 40; go_in))
  go_ret
  exact ⟨rfl, drewN_of (by go_grown)⟩
set_option maxRecDepth 100000 in
set_option maxHeartbeats 2000000 in
theorem c_3 (d : Int) (s : ByteArray) (hs : s.size ≤ 1048576) (w : World)  :
    Calls Try.prog 9 #[.bool true, .int .u32 39, .int .i64 3, .int .u32 d, .string s] w fun e w' => e = .returned (.bool true) ∧ Below w.heap.size w w' := by
  have A0 := as_TestExpr_Word_Word
  have A1 := as_TestExpr_UnaryTest_Word
  have A2 := as_TestExpr_BinaryTest_Word
  have A3 := as_TestExpr_ParenTest_Word
  have E4 := eq_Word
  have A4 := as_TestExpr_Word_UnaryTest
  have A5 := as_TestExpr_UnaryTest_UnaryTest
  have A6 := as_TestExpr_BinaryTest_UnaryTest
  have A7 := as_TestExpr_ParenTest_UnaryTest
  have E8 := eq_UnaryTest
  have A8 := as_TestExpr_Word_BinaryTest
  have A9 := as_TestExpr_UnaryTest_BinaryTest
  have A10 := as_TestExpr_BinaryTest_BinaryTest
  have A11 := as_TestExpr_ParenTest_BinaryTest
  have E12 := eq_BinaryTest
  go_enter Try.func9, Try.ntmps9
  go_wp2_with (first | (go_at_call 34; go_in) | (go_at_call 35; go_in) | (go_at_call 38; go_in) | (go_at_call 36; go_in) | (go_at_call 50; go_in))
  go_quiet (fail)
  go_wp2_with (first | (go_at_call 38; go_in) | (go_at_call 37; go_in) | (go_at_call 39; go_in) | (go_at_call 40; go_in))
  go_ret
  exact ⟨rfl, drewN_of (by go_grown)⟩
set_option maxRecDepth 100000 in
set_option maxHeartbeats 2000000 in
theorem c_4 (k : Int) (d : Int) (s : ByteArray) (hs : s.size ≤ 1048576) (w : World) (hk1 : (k == 1) = false) (gk1 : (k != 1) = true) (hk2 : (k == 2) = false) (gk2 : (k != 2) = true) (hk3 : (k == 3) = false) (gk3 : (k != 3) = true) :
    Calls Try.prog 9 #[.bool true, .int .u32 39, .int .i64 k, .int .u32 d, .string s] w fun e w' => e = .returned (.bool true) ∧ Below w.heap.size w w' := by
  have A0 := as_TestExpr_Word_Word
  have A1 := as_TestExpr_UnaryTest_Word
  have A2 := as_TestExpr_BinaryTest_Word
  have A3 := as_TestExpr_ParenTest_Word
  have E4 := eq_Word
  have A4 := as_TestExpr_Word_UnaryTest
  have A5 := as_TestExpr_UnaryTest_UnaryTest
  have A6 := as_TestExpr_BinaryTest_UnaryTest
  have A7 := as_TestExpr_ParenTest_UnaryTest
  have E8 := eq_UnaryTest
  have A8 := as_TestExpr_Word_BinaryTest
  have A9 := as_TestExpr_UnaryTest_BinaryTest
  have A10 := as_TestExpr_BinaryTest_BinaryTest
  have A11 := as_TestExpr_ParenTest_BinaryTest
  have E12 := eq_BinaryTest
  go_enter Try.func9, Try.ntmps9
  go_wp2_with (first | (go_at_call 34; go_in) | (go_at_call 35; go_in) | (go_at_call 38; go_in) | (go_at_call 36; go_in) | (go_at_call 50; go_in))
  go_quiet (fail)
  go_wp2_with (first | (go_at_call 38; go_in) | (go_at_call 37; go_in) | (go_at_call 39; go_in) | (go_at_call 40; go_in))
  go_ret
  exact ⟨rfl, drewN_of (by go_grown)⟩

theorem off (x n : Int) (h : ¬ x = n) : (x == n) = false ∧ (x != n) = true := by simp [bne, h]
set_option maxRecDepth 100000 in
set_option maxHeartbeats 1000000 in
theorem big (u : Bool) (o k d : Int) (s : ByteArray) (hs : 1048576 < s.size) (w : World) :
    Calls Try.prog 9 #[.bool u, .int .u32 o, .int .i64 k, .int .u32 d, .string s] w fun e w' => e = .returned (.bool true) ∧ Below w.heap.size w w' := by
  go_enter Try.func9, Try.ntmps9
  go_wp2_with (go_at_call 34; go_in)
  go_ret
  exact ⟨rfl, by go_grown⟩
theorem walk (a0 : Bool) (a1 a2 a3 : Int) (a4 : ByteArray) (w : World) (w1 : (Lit.int .u32 a1).wf = true) (w2 : (Lit.int .i64 a2).wf = true) (w3 : (Lit.int .u32 a3).wf = true) (w4 : a4.size ≤ maxLen) :
    Calls Try.prog 9 #[.bool a0, .int .u32 a1, .int .i64 a2, .int .u32 a3, .string a4] w fun e w' => e = .returned (.bool true) ∧ Below w.heap.size w w' := by
  by_cases hb : 1048576 < a4.size
  · exact big a0 a1 a2 a3 a4 hb w
  have hs : a4.size ≤ 1048576 := by omega
  cases a0
  · exact c_plain a1 a2 a3 a4 hs w
  by_cases k1 : a2 = 1
  · subst k1
    by_cases ho : a1 = 39
    · subst ho
      by_cases d1 : a3 = 124
      · subst d1; exact c_11 a4 hs w
      by_cases d2 : a3 = 125
      · subst d2; exact c_12 a4 hs w
      by_cases d3 : a3 = 39
      · subst d3; exact c_13 a4 hs w
      exact c_14 a3 a4 hs w (off _ _ d1).1 (off _ _ d1).2 (off _ _ d2).1 (off _ _ d2).2 (off _ _ d3).1 (off _ _ d3).2
    · exact c_o1 a1 a3 a4 hs w (off _ _ ho).1 (off _ _ ho).2
  by_cases k2 : a2 = 2
  · subst k2
    by_cases ho : a1 = 39
    · subst ho
      by_cases d1 : a3 = 45
      · subst d1; exact c_21 a4 hs w
      by_cases d2 : a3 = 46
      · subst d2; exact c_22 a4 hs w
      exact c_23 a3 a4 hs w (off _ _ d1).1 (off _ _ d1).2 (off _ _ d2).1 (off _ _ d2).2
    · exact c_o2 a1 a3 a4 hs w (off _ _ ho).1 (off _ _ ho).2
  by_cases k3 : a2 = 3
  · subst k3
    by_cases ho : a1 = 39
    · subst ho; exact c_3 a3 a4 hs w
    · exact c_o3 a1 a3 a4 hs w (off _ _ ho).1 (off _ _ ho).2
  by_cases ho : a1 = 39
  · subst ho; exact c_4 a2 a3 a4 hs w (off _ _ k1).1 (off _ _ k1).2 (off _ _ k2).1 (off _ _ k2).2 (off _ _ k3).1 (off _ _ k3).2
  · exact c_o4 a1 a2 a3 a4 hs w (off _ _ ho).1 (off _ _ ho).2 (off _ _ k1).1 (off _ _ k1).2 (off _ _ k2).1 (off _ _ k2).2 (off _ _ k3).1 (off _ _ k3).2
end Go.Proofs.Ytoankohalfnemaa.fnRemoveNegateTestCaseTable
