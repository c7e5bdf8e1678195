/- The walk of FnStmtsEndOnlyLastStmt: the Go text returns true. Conditions: none. -/
import Derived.Test.YtfeibikakhmecaaCe
import Derived.OpenShut
namespace Go.Proofs.Ytfeibikakhmecaa.fnStmtsEndOnlyLastStmt
open Go.RowKit
set_option linter.unusedVariables false
set_option linter.unusedSimpArgs false

set_option maxRecDepth 100000 in
set_option maxHeartbeats 4000000 in
theorem walk (a0 : Option Addr) (len0 cap0 : Nat) (z0 : Nat → RawS) (w : World) (w0 : IsStmts w a0 len0 cap0 z0) :
    Calls Try.prog 3 #[.slice a0 len0 cap0] w fun e w' => e = .returned (.bool true) ∧ Below w.heap.size w w' := by
  have H := Lib.hid w0
  clear w0
  go_enter Try.func3, Try.ntmps3
  go_wp2_with fail
  refine (zb2_any a0 len0 cap0 z0 _ H.out).mono ?_
  rintro e w1 ⟨⟨b, rfl, hb⟩, hb1⟩
  have HB := Lib.hid hb
  have H1 := Lib.hid hb1
  clear hb hb1
  cases b
  · go_wp2_with fail
    go_ret
    exact ⟨rfl, H1.out⟩
  have HS := Lib.hid (HB.out rfl)
  have hn := HS.out.1
  go_wp2_with fail
  refine (ztb_any a0 none len0 cap0 0 0 z0 (fun _ => default) _ _ (H.out.below H1.out) (.inl ⟨rfl, rfl, rfl⟩) (by decide) HS.out.2 (fun i hi => absurd hi (by omega)) hn (by omega)).mono ?_
  rintro e w2 ⟨⟨b, rfl, hb⟩, hb2⟩
  have H2 := Lib.hid (below_next H1.out hb2)
  clear hb hb2
  cases b
  rotate_left
  · go_wp2_with fail
    go_ret
    exact ⟨rfl, H2.out⟩
  by_cases hz : len0 = 0
  · have hz' : (len0 : Int) = 0 := by omega
    go_wp2_with fail
    go_ret
    exact ⟨rfl, H2.out⟩
  have hz' : ((len0 : Int) == 0) = false := by simp; omega
  have h0 : 0 < len0 := by omega
  clear hz
  go_wp2_with fail
  refine (zs_any a0 len0 cap0 z0 _ (H.out.below H2.out) h0 HS.out).mono ?_
  rintro e w3 ⟨g, rfl, hA, hb3⟩
  have HI := H.out.in_ HS.out (len0 - 1) (by omega)
  obtain ⟨p, c0, hbare⟩ := hA.at (len0 - 1) (by omega)
  obtain ⟨Z, eZ⟩ : ∃ Z, Z = z0 (len0 - 1) := ⟨_, rfl⟩
  rw [← eZ] at HI hbare
  have H3 := Lib.hid (below_next H2.out hb3)
  have HZ := Lib.hid (show ∀ W L o m c, Below w3.heap.size w3 W → NoComs L → 0 < m → m ≤ 1048576 → o + (m - 1) = len0 - 1 → Calls Try.prog 10 #[.slice (some ⟨g, o, none⟩) m c, L] W fun e w' => e = .returned (.agg #[.int .u32 (eO Z), .int .u32 (eL Z)]) ∧ Below W.heap.size W w' from fun W L o m c hW hL hm hmc ho =>
    zsend_any g o m c p g Z L W hL hm hmc (by rw [ho]; exact cell_below hW c0) (hbare.keep fun _ _ _ _ h => cell_below hW h) HI)
  have u1 : ((len0 : Int) - 1).toNat = len0 - 1 := by omega
  have u2 : (0 : Int) ≤ (len0 : Int) - 1 := by omega
  have u3 : (len0 : Int) - 1 ≤ (len0 : Int) := by omega
  have u4 : (1 : Int) ≤ (len0 : Int) := by omega
  have u5 := IntWalk.i64_in ((len0 : Int) - 1) (by omega)
  have u6 : len0 - (len0 - 1) = 1 := by omega
  have u7 : len0 - 1 ≠ len0 := by omega
  clear hb3 hA c0 hbare eZ HI
  have hS := Lib.hid (Below.refl w3.heap.size w3)
  go_wp2_with fail
  go_region_held3 (fun W9 => Hid (Below w3.heap.size w3 W9))
    ((first | exact hS | exact Lib.hid (below_next hS.out (below_drew _)) | exact Lib.hid (below_next hS.out (by go_grown))))
    (first
      | (go_at_call 10; refine (HZ.out _ _ 0 len0 len0 (by first | exact Hid.out (by assumption)) (.inl ⟨0, rfl⟩) h0 hn (by omega)).mono ?_; rintro e wN ⟨rfl, hbN⟩; have hS := Lib.hid (below_next (Hid.out (show Hid (Below w3.heap.size w3 _) by assumption)) hbN); clear hbN)
      | (go_at_call 10; refine (HZ.out _ _ (len0 - 1) 1 1 (by first | exact Hid.out (by assumption)) (.inr ⟨_, 0, rfl⟩) (by omega) (by omega) (by omega)).mono ?_; rintro e wN ⟨rfl, hbN⟩; have hS := Lib.hid (below_next (Hid.out (show Hid (Below w3.heap.size w3 _) by assumption)) hbN); clear hbN))
  all_goals
    go_wp2_with fail
    go_ret
    exact ⟨by simp, below_next H3.out hS.out⟩
end Go.Proofs.Ytfeibikakhmecaa.fnStmtsEndOnlyLastStmt
