/- The walk of FnInlineSimpleParamsIdempotent: the Go text returns true. Conditions: none. -/
import Derived.Test.YtdhoamfpeioieaaIspBuild
import Derived.OpenShut
namespace Go.Proofs.Ytdhoamfpeioieaa.fnInlineSimpleParamsIdempotent
open Go.RowKit
set_option linter.unusedVariables false
set_option linter.unusedSimpArgs false

set_option maxHeartbeats 400000 in
theorem sa_any (a : Addr) (w : World) : Calls Try.prog 13 #[.iface 30 (.pointer (some a)), .iface 30 (.pointer (some a))] w fun e w' => e = .returned (.bool true) ∧ w' = w := by
  have t1 := eqi_ArithmExpr_Word
  go_enter Try.func13, Try.ntmps13
  go_wp2
  go_ret
  exact ⟨rfl, rfl⟩
theorem spw_any (s : ByteArray) (n k x : Nat) (w : World) (hn : n ≤ 65536) (hk : k < 3) (hx : x ≤ 16) (hs : s.size ≤ 1048576) :
    Calls Try.prog 11 #[.string s, .int .i64 n, .int .i64 k, .int .i64 x] w (SpMade w) := by
  have h : k = 0 ∨ k = 1 ∨ k = 2 := by omega
  rcases h with rfl | rfl | rfl
  · exact spw_0 s n x w hn hx hs
  · exact spw_1 s n x w hn hx hs
  · exact spw_2 s n x w hn hx hs
set_option maxRecDepth 100000 in
set_option maxHeartbeats 4000000 in
theorem main (s : ByteArray) (n k x : Nat) (w : World) (hn : n ≤ 65536) (hk : k < 3) (hx : x ≤ 16) (hs : s.size ≤ 1048576) :
    Calls Try.prog 4 #[.string s, .int .i64 n, .int .i64 k, .int .i64 x] w fun e w' => e = .returned (.bool true) ∧ Below w.heap.size w w' := by
  have k3 : (k : Int) ≤ 2 := by omega
  have x3 : (x : Int) ≤ 16 := by omega
  go_enter Try.func4, Try.ntmps4
  go_wp2_with (go_at_call 10; go_in)
  refine (spw_any s n k x _ hn hk hx hs).mono ?_
  rintro e w1 ⟨W, b, l, rfl, hmade, hb1⟩
  have HM := Lib.hid hmade
  have H1 := Lib.hid hb1
  clear hmade hb1
  go_wp2_with fail
  refine (zisp_first W _ HM.out).mono ?_
  rintro e w2 ⟨N, md, rfl, hst, hb2⟩
  have HS := Lib.hid hst
  have H2 := Lib.hid (below_next H1.out hb2)
  clear hst hb2 HM H1
  go_wp2_with fail
  refine (zisp_still N _ HS.out).mono ?_
  rintro e w3 ⟨rfl, hb3⟩
  have H3 := Lib.hid (below_next H2.out hb3)
  clear hb3 H2
  go_wp2_with fail
  refine (sa_any _ _).mono ?_
  rintro e w4 ⟨rfl, rfl⟩
  go_wp2_with fail
  go_ret
  exact ⟨rfl, H3.out⟩
set_option maxRecDepth 100000 in
set_option maxHeartbeats 1000000 in
theorem walk (a0 : ByteArray) (a1 : Int) (a2 : Int) (a3 : Int) (w : World) (w0 : a0.size ≤ maxLen) (w1 : (Lit.int .i64 a1).wf = true) (w2 : (Lit.int .i64 a2).wf = true) (w3 : (Lit.int .i64 a3).wf = true) :
    Calls Try.prog 4 #[.string a0, .int .i64 a1, .int .i64 a2, .int .i64 a3] w fun e w' => e = .returned (.bool true) ∧ Below w.heap.size w w' := by
  have b1 := bounds_i64 w1
  have b2 := bounds_i64 w2
  have b3 := bounds_i64 w3
  clear w1 w2 w3
  by_cases g1 : 1048576 < a0.size
  · go_enter Try.func4, Try.ntmps4
    go_wp2_with (go_at_call 10; go_in)
    go_ret
    exact ⟨rfl, by go_grown⟩
  by_cases g2 : a1 < 0 ∨ 65536 < a1
  · rcases g2 with g2 | g2
    all_goals
      go_enter Try.func4, Try.ntmps4
      go_wp2_with (go_at_call 10; go_in)
      go_ret
      exact ⟨rfl, by go_grown⟩
  by_cases g3 : a2 < 0 ∨ 2 < a2
  · rcases g3 with g3 | g3
    all_goals
      go_enter Try.func4, Try.ntmps4
      go_wp2_with (go_at_call 10; go_in)
      go_ret
      exact ⟨rfl, by go_grown⟩
  by_cases g4 : a3 < 0 ∨ 16 < a3
  · rcases g4 with g4 | g4
    all_goals
      go_enter Try.func4, Try.ntmps4
      go_wp2_with (go_at_call 10; go_in)
      go_ret
      exact ⟨rfl, by go_grown⟩
  obtain ⟨n, rfl⟩ := Int.eq_ofNat_of_zero_le (show 0 ≤ a1 by omega)
  obtain ⟨k, rfl⟩ := Int.eq_ofNat_of_zero_le (show 0 ≤ a2 by omega)
  obtain ⟨x, rfl⟩ := Int.eq_ofNat_of_zero_le (show 0 ≤ a3 by omega)
  exact main a0 n k x w (by omega) (by omega) (by omega) (by omega)
end Go.Proofs.Ytdhoamfpeioieaa.fnInlineSimpleParamsIdempotent
