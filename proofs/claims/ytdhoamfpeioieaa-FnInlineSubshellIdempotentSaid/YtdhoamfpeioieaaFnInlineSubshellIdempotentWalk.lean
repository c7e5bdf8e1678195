/- The walk of FnInlineSubshellIdempotent: the Go text returns true. Conditions: none. -/
import Derived.Test.YtdhoamfpeioieaaSubBuild
import Derived.OpenShut
namespace Go.Proofs.Ytdhoamfpeioieaa.fnInlineSubshellIdempotent
open Go.RowKit
set_option linter.unusedVariables false

set_option maxRecDepth 100000 in
set_option maxHeartbeats 4000000 in
theorem main (d m : Nat) (at_ kind : Int) (w : World) (hd : d ≤ 65536) (hm : m ≤ 65536) (hk : kind = 0 ∨ kind = 1 ∨ kind = 2 ∨ kind = 3 ∨ kind = 4) :
    Calls Try.prog 3 #[.int .i64 d, .int .i64 at_, .int .i64 kind, .int .i64 m] w fun e w' => e = .returned (.bool true) ∧ Below w.heap.size w w' := by
  have k0 : 0 ≤ kind := by omega
  have k4 : kind ≤ 4 := by omega
  have v0 : (0 : Int) < (d : Int) + 1 := by omega
  go_enter Try.func3, Try.ntmps3
  go_wp2_with fail
  refine (sch_any d m at_ kind _ hd hm hk).mono ?_
  rintro e w1 ⟨L, k, s, c, rfl, c0, hch, hb1⟩
  obtain ⟨g, n, rfl⟩ := hch.form
  have HC := Lib.hid (ChainS.old (Nat.le_refl _) k _ hch)
  have H1 := Lib.hid hb1
  clear hch hb1
  have z0 := World.block_lt_of_cell? _ _ c0
  simp only at z0
  go_wp2_with fail
  refine (zinl_any k _ c _ HC.out).mono ?_
  rintro e w2 ⟨⟨md, rfl, _⟩, hc2, hb2⟩
  have HC2 := Lib.hid hc2
  have H2 := Lib.hid (below_next H1.out hb2)
  clear hc2 hb2 HC H1 c0 z0
  go_wp2_with fail
  refine (zinl_any 0 _ c _ HC2.out).mono ?_
  rintro e w3 ⟨⟨md3, rfl, hmd⟩, hc3, hb3⟩
  have HC3 := Lib.hid hc3
  have H3 := Lib.hid (below_next H2.out hb3)
  clear hc3 hb3 HC2 H2
  obtain rfl : md3 = false := by simpa using hmd
  clear hmd
  go_wp2_with fail
  refine (sst_any _ c _ HC3.out.2).mono ?_
  rintro e w4 ⟨rfl, hb4⟩
  have H4 := Lib.hid (below_next H3.out hb4)
  clear hb4
  go_wp2_with fail
  go_ret
  exact ⟨rfl, H4.out⟩
set_option maxRecDepth 100000 in
set_option maxHeartbeats 1000000 in
theorem walk (a0 : Int) (a1 : Int) (a2 : Int) (a3 : Int) (w : World) (w0 : (Lit.int .i64 a0).wf = true) (w1 : (Lit.int .i64 a1).wf = true) (w2 : (Lit.int .i64 a2).wf = true) (w3 : (Lit.int .i64 a3).wf = true) :
    Calls Try.prog 3 #[.int .i64 a0, .int .i64 a1, .int .i64 a2, .int .i64 a3] w fun e w' => e = .returned (.bool true) ∧ Below w.heap.size w w' := by
  have b0 := bounds_i64 w0
  have b1 := bounds_i64 w1
  have b2 := bounds_i64 w2
  have b3 := bounds_i64 w3
  clear w0 w1 w2 w3
  by_cases g2 : a0 < 0 ∨ 65536 < a0
  · rcases g2 with g2 | g2
    all_goals
      go_enter Try.func3, Try.ntmps3
      go_wp2_with fail
      go_ret
      exact ⟨rfl, by go_grown⟩
  by_cases g3 : a3 < 0 ∨ 65536 < a3
  · rcases g3 with g3 | g3
    all_goals
      go_enter Try.func3, Try.ntmps3
      go_wp2_with fail
      go_ret
      exact ⟨rfl, by go_grown⟩
  by_cases g4 : a2 < 0 ∨ 4 < a2
  · rcases g4 with g4 | g4
    all_goals
      go_enter Try.func3, Try.ntmps3
      go_wp2_with fail
      go_ret
      exact ⟨rfl, by go_grown⟩
  obtain ⟨d, rfl⟩ := Int.eq_ofNat_of_zero_le (show 0 ≤ a0 by omega)
  obtain ⟨m, rfl⟩ := Int.eq_ofNat_of_zero_le (show 0 ≤ a3 by omega)
  exact main d m a1 a2 w (by omega) (by omega) (by omega)
end Go.Proofs.Ytdhoamfpeioieaa.fnInlineSubshellIdempotent
