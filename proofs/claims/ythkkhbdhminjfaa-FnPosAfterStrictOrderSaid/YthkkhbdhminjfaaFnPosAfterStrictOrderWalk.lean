/- The walk of FnPosAfterStrictOrder: the Go text returns true. Conditions: none beyond the kinds. -/
import Derived.Test.YthkkhbdhminjfaaPos
import Derived.OpenShut
import Derived.Deep.RegionHeld3
import Derived.Outline
namespace Go.Proofs.Ythkkhbdhminjfaa.fnPosAfterStrictOrder
open Go.RowKit

def aft (o lc o2 : Int) : Bool := validB o lc && decide (o2 < o)

theorem after_b (o lc o2 lc2 : Int) (w : World) (ho : 0 ≤ o ∧ o ≤ 4294967284) (hl : 0 ≤ lc ∧ lc ≤ 4294967295) :
    Calls Try.prog 13 #[.agg #[.int .u32 o, .int .u32 lc], .agg #[.int .u32 o2, .int .u32 lc2]] w fun e w' => e = .returned (.bool (aft o lc o2)) ∧ Below w.heap.size w w' :=
  after_any o lc o2 lc2 w ⟨ho.1, by omega⟩ hl

set_option maxHeartbeats 4000000 in
set_option maxRecDepth 100000 in
theorem walk (a0 a1 a2 a3 a4 a5 a6 a7 a8 : Int) (w : World) (w0 : (Lit.int .u64 a0).wf = true) (w1 : (Lit.int .u64 a1).wf = true) (w2 : (Lit.int .u64 a2).wf = true) (w3 : (Lit.int .u64 a3).wf = true) (w4 : (Lit.int .u64 a4).wf = true) (w5 : (Lit.int .u64 a5).wf = true) (w6 : (Lit.int .u64 a6).wf = true) (w7 : (Lit.int .u64 a7).wf = true) (w8 : (Lit.int .u64 a8).wf = true) :
    Calls Try.prog 5 #[.int .u64 a0, .int .u64 a1, .int .u64 a2, .int .u64 a3, .int .u64 a4, .int .u64 a5, .int .u64 a6, .int .u64 a7, .int .u64 a8] w fun e w' => e = .returned (.bool true) ∧ Below w.heap.size w w' := by
  have b0 := bounds_u64 w0
  have b1 := bounds_u64 w1
  have b2 := bounds_u64 w2
  have b3 := bounds_u64 w3
  have b4 := bounds_u64 w4
  have b5 := bounds_u64 w5
  have b6 := bounds_u64 w6
  have b7 := bounds_u64 w7
  have b8 := bounds_u64 w8
  clear w0 w1 w2 w3 w4 w5 w6 w7 w8
  go_enter Try.func5, Try.ntmps5
  go_wp2_with fail
  refine (newPos_at _ _ _ _ b0 b1 b2).mono ?_
  rintro e w' ⟨rfl, rfl⟩
  go_wp2_with fail
  refine (newPos_at _ _ _ _ b3 b4 b5).mono ?_
  rintro e w' ⟨rfl, rfl⟩
  go_wp2_with fail
  refine (newPos_at _ _ _ _ b6 b7 b8).mono ?_
  rintro e w' ⟨rfl, rfl⟩
  have i0 := offCap_in a0 b0.1
  have i3 := offCap_in a3 b3.1
  have i6 := offCap_in a6 b6.1
  have j0 := lcOf_in a1 a2 b1.1 b2.1
  have j3 := lcOf_in a4 a5 b4.1 b5.1
  have j6 := lcOf_in a7 a8 b7.1 b8.1
  clear b0 b1 b2 b3 b4 b5 b6 b7 b8
  generalize offCap a0 = p1 at *
  generalize offCap a3 = q1 at *
  generalize offCap a6 = r1 at *
  generalize lcOf a1 a2 = p2 at *
  generalize lcOf a4 a5 = q2 at *
  generalize lcOf a7 a8 = r2 at *
  have epp : aft p1 p2 p1 = false := by simp [aft]
  have eqq : aft q1 q2 q1 = false := by simp [aft]
  have err : aft r1 r2 r1 = false := by simp [aft]
  have asym : aft p1 p2 q1 = true → aft q1 q2 p1 = false := by simp [aft]; omega
  have tran : aft p1 p2 q1 = true → aft q1 q2 r1 = true → aft p1 p2 r1 = true := by simp only [aft, Bool.and_eq_true, decide_eq_true_eq]; rintro ⟨h1, h2⟩ ⟨h3, h4⟩; exact ⟨h1, by omega⟩
  have hval : validB p1 p2 = true → aft p1 p2 q1 = decide (q1 < p1) := by intro h; simp [aft, h]
  have hinv : validB p1 p2 = false → aft p1 p2 q1 = false := by intro h; simp [aft, h]
  have op : offOf p1 = p1 := by unfold offOf; rw [if_neg (by omega)]
  have oq : offOf q1 = q1 := by unfold offOf; rw [if_neg (by omega)]
  have Asym := Lib.hid asym
  have Tran := Lib.hid tran
  have Hval := Lib.hid hval
  have Hinv := Lib.hid hinv
  clear asym tran hval hinv
  go_wp2_with fail
  refine (after_b _ _ _ _ _ i0 j0).mono ?_
  rintro e w1 ⟨rfl, hb1⟩
  obtain ⟨S, hS, hSn, hSB, hSc⟩ := cells_after w _ _ hb1 [(⟨w.heap.size + 1, 0, none⟩, .int .u32 p1), (⟨w.heap.size + 1, 1, none⟩, .int .u32 p2), (⟨w.heap.size + 1 + 1 + 1, 0, none⟩, .int .u32 q1), (⟨w.heap.size + 1 + 1 + 1, 1, none⟩, .int .u32 q2), (⟨w.heap.size + 1 + 1 + 1 + 1 + 1, 0, none⟩, .int .u32 r1), (⟨w.heap.size + 1 + 1 + 1 + 1 + 1, 1, none⟩, .int .u32 r2)] (by go_grown) (by simp [go_sem])
  clear hb1
  have hC : ∀ W, S W → W.cell? ⟨w.heap.size + 1, 0, none⟩ = some (.int .u32 p1) ∧ W.cell? ⟨w.heap.size + 1, 1, none⟩ = some (.int .u32 p2) ∧ W.cell? ⟨w.heap.size + 1 + 1 + 1, 0, none⟩ = some (.int .u32 q1) ∧ W.cell? ⟨w.heap.size + 1 + 1 + 1, 1, none⟩ = some (.int .u32 q2) ∧ W.cell? ⟨w.heap.size + 1 + 1 + 1 + 1 + 1, 0, none⟩ = some (.int .u32 r1) ∧ W.cell? ⟨w.heap.size + 1 + 1 + 1 + 1 + 1, 1, none⟩ = some (.int .u32 r2) := fun W h => by simpa using hSc W h
  obtain ⟨c1, c2, c3, c4, c5, c6⟩ := hC _ hS
  have HC := Lib.hid hC
  clear hC
  clear hSc
  have HSn := Lib.hid hSn
  have HSB := Lib.hid hSB
  clear hSn hSB
  cases hv : validB p1 p2
  · have hpq := Hinv.out hv
    cases hqp : aft q1 q2 p1
    all_goals
      go_wp2_with (first
        | (go_at_call 13; refine (after_b _ _ _ _ _ (by assumption) (by assumption)).mono ?_; rintro e w2 ⟨rfl, hb2⟩; have hS := HSn.out _ _ hS hb2; clear hb2; obtain ⟨c1, c2, c3, c4, c5, c6⟩ := HC.out _ hS)
        | (go_at_call 7; refine (isValid_any _ _ _ ⟨i0.1, by omega⟩ j0).mono ?_; rintro e w2 ⟨rfl, hb2⟩; have hS := HSn.out _ _ hS hb2; clear hb2; obtain ⟨c1, c2, c3, c4, c5, c6⟩ := HC.out _ hS))
      go_ret
      exact ⟨rfl, HSB.out _ (by assumption)⟩
  · have Hd := Lib.hid (Hval.out hv)
    cases hpq : aft p1 p2 q1
    all_goals
      cases hqp : aft q1 q2 p1
      all_goals
        cases hqr : aft q1 q2 r1
        all_goals
          cases hpr : aft p1 p2 r1
          all_goals
            first
            | (exfalso; have := Asym.out; simp_all; done)
            | (exfalso; have := Tran.out; simp_all; done)
            | skip
    all_goals
      have hd := (Hd.out).symm.trans hpq
      go_wp2_with (first
        | (go_at_call 13; refine (after_b _ _ _ _ _ (by assumption) (by assumption)).mono ?_; rintro e w2 ⟨rfl, hb2⟩; have hS := HSn.out _ _ hS hb2; clear hb2; obtain ⟨c1, c2, c3, c4, c5, c6⟩ := HC.out _ hS)
        | (go_at_call 7; refine (isValid_any _ _ _ ⟨i0.1, by omega⟩ j0).mono ?_; rintro e w2 ⟨rfl, hb2⟩; have hS := HSn.out _ _ hS hb2; clear hb2; obtain ⟨c1, c2, c3, c4, c5, c6⟩ := HC.out _ hS))
      go_region_held3 (fun w' => S w' ∧ w'.cell? ⟨w.heap.size + 1, 0, none⟩ = some (.int .u32 p1) ∧ w'.cell? ⟨w.heap.size + 1, 1, none⟩ = some (.int .u32 p2) ∧ w'.cell? ⟨w.heap.size + 1 + 1 + 1, 0, none⟩ = some (.int .u32 q1) ∧ w'.cell? ⟨w.heap.size + 1 + 1 + 1, 1, none⟩ = some (.int .u32 q2))
        (first | (exact ⟨by assumption, by assumption, by assumption, by assumption, by assumption⟩) | (have hS := HSn.out _ _ (by assumption) (below_drew _); exact ⟨hS, (HC.out _ hS).1, (HC.out _ hS).2.1, (HC.out _ hS).2.2.1, (HC.out _ hS).2.2.2.1⟩))
        (first
          | (go_at_call 13; refine (after_b _ _ _ _ _ i0 j0).mono ?_; rintro e w2 ⟨rfl, hb2⟩; have hS := HSn.out _ _ (And.left (by assumption)) hb2; clear hb2; obtain ⟨c1, c2, c3, c4, c5, c6⟩ := HC.out _ hS)
          | (go_at_call 12; refine (offset_any _ _ _ (by omega)).mono ?_; rintro e w2 ⟨rfl, hb2⟩; have hS := HSn.out _ _ (And.left (by assumption)) hb2; clear hb2; obtain ⟨c1, c2, c3, c4, c5, c6⟩ := HC.out _ hS))
      go_wp2_with fail
      go_ret
      exact ⟨rfl, HSB.out _ (by assumption)⟩
end Go.Proofs.Ythkkhbdhminjfaa.fnPosAfterStrictOrder
