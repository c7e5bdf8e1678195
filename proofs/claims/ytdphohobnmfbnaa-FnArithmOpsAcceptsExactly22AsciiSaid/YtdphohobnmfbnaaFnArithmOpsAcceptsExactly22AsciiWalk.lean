/- The walk of FnArithmOpsAcceptsExactly22Ascii: the Go text returns true. Conditions: none. -/
import Derived.Test.YtdphohobnmfbnaaChecked
import Derived.Test.YtdphohobnmfbnaaKit
import Derived.Handy
import Derived.Outline
namespace Go.Proofs.Ytdphohobnmfbnaa.fnArithmOpsAcceptsExactly22Ascii
open Go.RowKit
set_option linter.unusedVariables false

def opL : List Int := [43, 45, 33, 126, 42, 47, 37, 40, 41, 94, 60, 62, 58, 61, 44, 63, 124, 38, 91, 93, 35, 46]
def opB (r : Int) : Bool := opL.contains r

set_option maxHeartbeats 4000000 in
theorem ops_any (r : Int) (w : World) :
    Calls Try.prog 69 #[.int .i32 r] w fun e w' => e = .returned (.bool (opB r)) ∧ w = w' := by
  by_cases hm : r ∈ opL
  · simp only [opL, List.mem_cons, List.not_mem_nil, or_false] at hm
    rcases hm with rfl | rfl | rfl | rfl | rfl | rfl | rfl | rfl | rfl | rfl | rfl | rfl | rfl | rfl | rfl | rfl | rfl | rfl | rfl | rfl | rfl | rfl
    all_goals
      go_enter Try.func69, Try.ntmps69
      go_wp2
      go_ret
      exact ⟨rfl, rfl⟩
  · have hf : opB r = false := by simpa [opB] using hm
    have Hf := Lib.hid hf
    simp only [opL, List.mem_cons, List.not_mem_nil, or_false, not_or] at hm
    obtain ⟨n43, n45, n33, n126, n42, n47, n37, n40, n41, n94, n60, n62, n58, n61, n44, n63, n124, n38, n91, n93, n35, n46⟩ := hm
    have e43 : (r == 43) = false := by simp [n43]
    have e45 : (r == 45) = false := by simp [n45]
    have e33 : (r == 33) = false := by simp [n33]
    have e126 : (r == 126) = false := by simp [n126]
    have e42 : (r == 42) = false := by simp [n42]
    have e47 : (r == 47) = false := by simp [n47]
    have e37 : (r == 37) = false := by simp [n37]
    have e40 : (r == 40) = false := by simp [n40]
    have e41 : (r == 41) = false := by simp [n41]
    have e94 : (r == 94) = false := by simp [n94]
    have e60 : (r == 60) = false := by simp [n60]
    have e62 : (r == 62) = false := by simp [n62]
    have e58 : (r == 58) = false := by simp [n58]
    have e61 : (r == 61) = false := by simp [n61]
    have e44 : (r == 44) = false := by simp [n44]
    have e63 : (r == 63) = false := by simp [n63]
    have e124 : (r == 124) = false := by simp [n124]
    have e38 : (r == 38) = false := by simp [n38]
    have e91 : (r == 91) = false := by simp [n91]
    have e93 : (r == 93) = false := by simp [n93]
    have e35 : (r == 35) = false := by simp [n35]
    have e46 : (r == 46) = false := by simp [n46]
    clear hf n43 n45 n33 n126 n42 n47 n37 n40 n41 n94 n60 n62 n58 n61 n44 n63 n124 n38 n91 n93 n35 n46
    go_enter Try.func69, Try.ntmps69
    go_wp2
    go_ret
    exact ⟨by rw [Hf.out]; rfl, rfl⟩

set_option maxHeartbeats 4000000 in
theorem isw_any (r : Int) (w : World) (hm : opB r = true) :
    Calls Try.prog 55 #[.int .i32 r] w fun e w' => e = .returned (.bool false) ∧ w = w' := by
  have hm : r ∈ opL := by simpa [opB] using hm
  simp only [opL, List.mem_cons, List.not_mem_nil, or_false] at hm
  rcases hm with rfl | rfl | rfl | rfl | rfl | rfl | rfl | rfl | rfl | rfl | rfl | rfl | rfl | rfl | rfl | rfl | rfl | rfl | rfl | rfl | rfl | rfl
  all_goals
    go_enter Try.func55, Try.ntmps55
    go_wp2
    go_ret
    exact ⟨rfl, rfl⟩

def cnt (k : Nat) : Nat := (opL.filter fun x => decide (x < (k : Int))).length
theorem cnt_le (k : Nat) : cnt k ≤ 22 := by
  unfold cnt; exact Nat.le_trans (List.length_filter_le _ _) (by decide)
theorem cnt_all : cnt 128 = 22 := by decide
theorem cnt_step (k : Nat) (hk : k < 128) : cnt (k + 1) = cnt k + (if opB (k : Int) = true then 1 else 0) := by
  have : ∀ j : Fin 128, cnt (j.val + 1) = cnt j.val + (if opB (j.val : Int) = true then 1 else 0) := by decide +kernel
  exact this ⟨k, hk⟩
theorem op_range (k : Nat) (h : opB (k : Int) = true) : 33 ≤ (k : Int) ∧ (k : Int) ≤ 126 := by
  have hm : (k : Int) ∈ opL := by simpa [opB] using h
  simp only [opL, List.mem_cons, List.not_mem_nil, or_false] at hm
  omega

set_option maxHeartbeats 4000000 in
set_option maxRecDepth 100000 in
theorem walk (w : World) :
    Calls Try.prog 14 #[] w fun e w' => e = .returned (.bool true) ∧ Below w.heap.size w w' := by
  go_enter Try.func14, Try.ntmps14
  go_wp2_with fail
  go_loop [1, 2] (fun n i => ∃ k : Nat, k ≤ 128 ∧ i = .int .i64 k ∧ n = .int .i64 (cnt k)) (fun _ i => 128 - (intOf i).toNat)
  case atStart => exact ⟨0, by omega, rfl, rfl⟩
  case round =>
    obtain ⟨k, hk, rfl, rfl⟩ := hrel
    have hl := cnt_le k
    by_cases hlt : k < 128
    · have Hs := Lib.hid (cnt_step k hlt)
      have v1 : ((k : Int) ≤ 127) := by omega
      cases hop : opB (k : Int)
      · go_wp2_with (first
          | (go_at_call 54; go_in)
          | (go_at_call 69; refine (ops_any _ _).mono ?_; rintro e w' ⟨rfl, rfl⟩))
        go_round
        case rel => exact ⟨k + 1, by omega, by go_num, by rw [Hs.out, hop]; rfl⟩
        case measure => simp [intOf]; omega
      · obtain ⟨r1, r2⟩ := op_range k hop
        go_wp2_with (first
          | (go_at_call 54; go_in)
          | (go_at_call 69; refine (ops_any _ _).mono ?_; rintro e w' ⟨rfl, rfl⟩)
          | (go_at_call 55; refine (isw_any _ _ hop).mono ?_; rintro e w' ⟨rfl, rfl⟩))
        go_round
        case rel => exact ⟨k + 1, by omega, by go_num, by rw [Hs.out, hop]; go_num⟩
        case measure => simp [intOf]; omega
    · obtain rfl : k = 128 := by omega
      have hc := cnt_all
      go_wp2_with fail
      go_ret
      exact ⟨rfl, by go_grown⟩
end Go.Proofs.Ytdphohobnmfbnaa.fnArithmOpsAcceptsExactly22Ascii
