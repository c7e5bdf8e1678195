/- The iterator over a set's bits. Conditions: the box. -/
import Derived.Test.YthdbfebfgomnpaaFmtColl
import Derived.RangeFuncBox
import Derived.RangeFuncLeaves
import Derived.WalkKit
import Derived.OwnWalkIn
import Derived.TacticsInMore
import Derived.LoopNIn
import Derived.LoopIn
namespace Go.Proofs.YthdbfebfgomnpaaFmt
open Go.RowKit Go.Shelf
set_option linter.unusedVariables false

def pows : List Int := [1, 2, 4, 8, 16]
def hasB (L n : Int) : Bool := !(Go.bits .and .i64 L n == 0)
def bitsTo (L : Int) (k : Nat) : List Int := (pows.take k).filter (hasB L)
theorem bitsTo_yes (L n : Int) (k : Nat) (hk : pows.take (k + 1) = pows.take k ++ [n]) (h : (Go.bits .and .i64 L n == 0) = false) : bitsTo L (k + 1) = bitsTo L k ++ [n] := by
  unfold bitsTo
  rw [hk, List.filter_append]
  simp [hasB, h]
theorem bitsTo_no (L n : Int) (k : Nat) (hk : pows.take (k + 1) = pows.take k ++ [n]) (h : (Go.bits .and .i64 L n == 0) = true) : bitsTo L (k + 1) = bitsTo L k := by
  unfold bitsTo
  rw [hk, List.filter_append]
  simp [hasB, h]
theorem bitsTo_len (L : Int) (k : Nat) : (bitsTo L k).length ≤ 5 := by
  unfold bitsTo
  exact Nat.le_trans (List.length_filter_le _ _) (by simp [pows]; omega)

def vI : Value → Int
  | .int _ q => q
  | _ => 0

set_option maxRecDepth 100000 in
set_option maxHeartbeats 4000000 in
theorem bits1_in (F : Fence) (n : Nat) (h19 : F.fn 19) (hro : F.round = none) (hn : 1 ≤ n) (l Bl : Nat) (L : Int) (J : List Int → World → Prop)
    (hY : ∀ pre x W1, J pre W1 → pre.length < 6 → YieldAt F (n - 1) Tryf.prog l #[encZ x] W1 fun e W' => e = .returned (.bool true) ∧ J (pre ++ [x]) W' ∧ KeepsWalks W1 W')
    (hJ : ∀ ss W1, J ss W1 → W1.cell? ⟨Bl, 0, none⟩ = some (.int .i64 L)) (W : World) (h0 : J [] W) :
    CallsIn F n Tryf.prog 19 #[.func (.yield l) #[] #[], .pointer (some ⟨Bl, 0, none⟩)] W fun e W' => (∃ v, e = .returned v) ∧ ∃ ss, ss = bitsTo L 5 ∧ J ss W' := by
  refine callsIn_of_wp Tryf.func19 rfl h19 ?_ hro
  simp only [Tryf.ntmps19, List.size_toArray, List.length_cons, List.length_nil, Nat.reduceAdd, Nat.reduceSub, Array.replicate_succ, Array.replicate_zero, List.push_toArray, List.append_toArray, List.nil_append, List.cons_append]
  gi_wp2
  gi_loopw [3] (fun i wr => ∃ (k : Nat) (z : Int), k ≤ 5 ∧ i = .int .i64 z ∧ (pows ++ [32])[k]? = some z ∧ J (bitsTo L k) wr) (fun i _ => 32 - (vI i).toNat)
  case atStart => exact ⟨0, 1, by omega, rfl, rfl, h0⟩
  case round =>
    obtain ⟨k, z, hk, rfl, hz, hJs⟩ := hrel
    have hc := hJ _ _ hJs
    by_cases hlt : k < 5
    · have hl := bitsTo_len L k
      obtain ⟨fn, tmps, assign, body, hy, hR⟩ := hY _ z wr hJs (by omega)
      rcases (show k = 0 ∨ k = 1 ∨ k = 2 ∨ k = 3 ∨ k = 4 by omega) with rfl | rfl | rfl | rfl | rfl
      · obtain rfl : 1 = z := Option.some.inj hz
        by_cases hb : (Go.bits .and .i64 L 1 == 0) = true
        · rw [← bitsTo_no L 1 0 rfl hb] at hJs
          clear hR hy
          gi_wp2
          exact ⟨⟨1, 2, by omega, rfl, rfl, hJs⟩, by simp [vI]⟩
        · have hb : (Go.bits .and .i64 L 1 == 0) = false := by simpa using hb
          rw [← bitsTo_yes L 1 0 rfl hb] at hR
          gi_wp2
          refine hR.mono ?_
          rintro e W3 ⟨rfl, hJ3, hk3⟩
          gi_wp2
          exact ⟨⟨1, 2, by omega, rfl, rfl, hJ3⟩, by simp [vI]⟩
      · obtain rfl : 2 = z := Option.some.inj hz
        by_cases hb : (Go.bits .and .i64 L 2 == 0) = true
        · rw [← bitsTo_no L 2 1 rfl hb] at hJs
          clear hR hy
          gi_wp2
          exact ⟨⟨2, 4, by omega, rfl, rfl, hJs⟩, by simp [vI]⟩
        · have hb : (Go.bits .and .i64 L 2 == 0) = false := by simpa using hb
          rw [← bitsTo_yes L 2 1 rfl hb] at hR
          gi_wp2
          refine hR.mono ?_
          rintro e W3 ⟨rfl, hJ3, hk3⟩
          gi_wp2
          exact ⟨⟨2, 4, by omega, rfl, rfl, hJ3⟩, by simp [vI]⟩
      · obtain rfl : 4 = z := Option.some.inj hz
        by_cases hb : (Go.bits .and .i64 L 4 == 0) = true
        · rw [← bitsTo_no L 4 2 rfl hb] at hJs
          clear hR hy
          gi_wp2
          exact ⟨⟨3, 8, by omega, rfl, rfl, hJs⟩, by simp [vI]⟩
        · have hb : (Go.bits .and .i64 L 4 == 0) = false := by simpa using hb
          rw [← bitsTo_yes L 4 2 rfl hb] at hR
          gi_wp2
          refine hR.mono ?_
          rintro e W3 ⟨rfl, hJ3, hk3⟩
          gi_wp2
          exact ⟨⟨3, 8, by omega, rfl, rfl, hJ3⟩, by simp [vI]⟩
      · obtain rfl : 8 = z := Option.some.inj hz
        by_cases hb : (Go.bits .and .i64 L 8 == 0) = true
        · rw [← bitsTo_no L 8 3 rfl hb] at hJs
          clear hR hy
          gi_wp2
          exact ⟨⟨4, 16, by omega, rfl, rfl, hJs⟩, by simp [vI]⟩
        · have hb : (Go.bits .and .i64 L 8 == 0) = false := by simpa using hb
          rw [← bitsTo_yes L 8 3 rfl hb] at hR
          gi_wp2
          refine hR.mono ?_
          rintro e W3 ⟨rfl, hJ3, hk3⟩
          gi_wp2
          exact ⟨⟨4, 16, by omega, rfl, rfl, hJ3⟩, by simp [vI]⟩
      · obtain rfl : 16 = z := Option.some.inj hz
        by_cases hb : (Go.bits .and .i64 L 16 == 0) = true
        · rw [← bitsTo_no L 16 4 rfl hb] at hJs
          clear hR hy
          gi_wp2
          exact ⟨⟨5, 32, by omega, rfl, rfl, hJs⟩, by simp [vI]⟩
        · have hb : (Go.bits .and .i64 L 16 == 0) = false := by simpa using hb
          rw [← bitsTo_yes L 16 4 rfl hb] at hR
          gi_wp2
          refine hR.mono ?_
          rintro e W3 ⟨rfl, hJ3, hk3⟩
          gi_wp2
          exact ⟨⟨5, 32, by omega, rfl, rfl, hJ3⟩, by simp [vI]⟩
    · obtain rfl : k = 5 := by omega
      obtain rfl : 32 = z := Option.some.inj hz
      gi_wp2
      go_end0
      exact ⟨⟨_, rfl⟩, _, rfl, hJs⟩
end Go.Proofs.YthdbfebfgomnpaaFmt
