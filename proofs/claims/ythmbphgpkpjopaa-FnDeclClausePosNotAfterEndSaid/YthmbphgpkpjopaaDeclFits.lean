/- What zzDeclFits answers, and words for slices of integers that came in. Conditions: none. -/
import Derived.Test.YthmbphgpkpjopaaList
import Derived.Deep.QuietTactic
import Derived.BigQuiet
import Derived.OpenShut
namespace Go.Proofs.Ythmbphgpkpjopaa.fnDeclClausePosNotAfterEnd
open Go.RowKit
set_option linter.unusedVariables false

/-- a slice of integers that came in -/
def IntIn (K : IntKind) (w : World) (a : Option Addr) (n : Nat) (f : Nat → Int) : Prop := ∀ i, i < n → ∃ x : Addr, a = some x ∧ w.cell? (x.add i) = some (.int K (f i))
theorem IntIn.below {K : IntKind} {W w : World} {a : Option Addr} {n : Nat} {f : Nat → Int} (h : IntIn K W a n f) (hb : Below W.heap.size W w) : IntIn K w a n f := fun i hi => by
  obtain ⟨x, e, hc⟩ := h i hi
  exact ⟨x, e, cell_later hb hc⟩
def nth (zs : List Int) (k : Nat) : Int := zs.getD k 0
theorem intIn_of {K : IntKind} {w : World} {a : Option Addr} {len cap : Nat} {zs : List Int} (h : IsRow K w a len cap zs) : IntIn K w a len (nth zs) := by
  rcases h with ⟨rfl, rfl, rfl, rfl⟩ | ⟨x, rfl, hl, _, hz, hc, hw⟩
  · exact fun i hi => absurd hi (by omega)
  · exact fun i hi => ⟨x, rfl, hc i (by omega)⟩
theorem nth_in {w : World} {a : Option Addr} {m cap : Nat} {zs : List Int} (h : IsRow .u32 w a m cap zs) : ∀ i, i < m → 0 ≤ nth zs i ∧ nth zs i ≤ 4294967295 := by
  intro i hi
  rcases h with ⟨rfl, rfl, rfl, rfl⟩ | ⟨x, rfl, hl, _, hz, _, hw⟩
  · omega
  · have e : nth zs i = zs[i]'(by omega) := by simp [nth, List.getD, show i < zs.length by omega]
    rw [e]
    exact bounds_u32 (hw _ (List.getElem_mem _))
theorem nth_in8 {w : World} {a : Option Addr} {m cap : Nat} {zs : List Int} (h : IsRow .u8 w a m cap zs) : ∀ i, i < m → 0 ≤ nth zs i ∧ nth zs i ≤ 255 := by
  intro i hi
  rcases h with ⟨rfl, rfl, rfl, rfl⟩ | ⟨x, rfl, hl, _, hz, _, hw⟩
  · omega
  · have e : nth zs i = zs[i]'(by omega) := by simp [nth, List.getD, show i < zs.length by omega]
    rw [e]
    exact bounds_u8 (hw _ (List.getElem_mem _))
set_option maxRecDepth 100000 in
set_option maxHeartbeats 1000000 in
theorem zb_any (o0 o1 o2 o3 : Int) (a0 a1 a2 a3 a4 a5 a6 : Option Addr) (n0 n1 n2 n3 n4 n5 n6 c0 c1 c2 c3 c4 c5 c6 : Nat) (w : World) :
    Calls Try.prog 12 #[.int .u32 o0, .int .u32 o1, .int .u32 o2, .int .u32 o3, .slice a0 n0 c0, .slice a1 n1 c1, .slice a2 n2 c2, .slice a3 n3 c3, .slice a4 n4 c4, .slice a5 n5 c5, .slice a6 n6 c6] w (SomeBool w) := by
  go_enter Try.func12, Try.ntmps12
  go_wp2
  all_goals
    go_ret
    exact ⟨_, rfl, by go_grown⟩
def reachB (o lc : Int) : Bool := decide (o ≤ 4294967284) || ((o == 4294967285) && (lc == 0))
set_option maxHeartbeats 400000 in
theorem reach_is (o lc : Int) (r : Bool) (w : World) (h : Hid (reachB o lc = r)) : Calls Try.prog 23 #[.int .u32 o, .int .u32 lc] w fun e w' => e = .returned (.bool r) ∧ w' = w := by
  rw [← h.out]
  unfold reachB
  by_cases h1 : o ≤ 4294967284
  · go_enter Try.func23, Try.ntmps23
    go_wp2
    go_ret
    exact ⟨by simp [h1], rfl⟩
  · have hd : decide (o ≤ 4294967284) = false := by simp; omega
    cases h2 : (o == 4294967285)
    all_goals
      go_enter Try.func23, Try.ntmps23
      go_wp2
      go_ret
      exact ⟨by simp, rfl⟩
theorem reach_eq (o lc : Int) (r : Bool) (w : World) (h : Hid (reachB o lc = r)) : Calls Try.prog 23 #[.int .u32 o, .int .u32 lc] w fun e w' => e = .returned (.bool r) ∧ w = w' := (reach_is o lc r w h).mono fun _ _ ⟨x, y⟩ => ⟨x, y.symm⟩
def FitB (n : Nat) (ns : List Nat) (w : World) (e : Ending) (w' : World) : Prop := ∃ b : Bool, e = .returned (.bool b) ∧ Below w.heap.size w w' ∧ (b = true → ∀ m ∈ ns, m = n)
set_option maxRecDepth 100000 in
set_option maxHeartbeats 2000000 in
theorem fits_eq (o0 o1 o2 o3 : Int) (a0 a1 a2 a3 a4 a5 a6 : Option Addr) (n c0 c1 c2 c3 c4 c5 c6 : Nat) (f1 f2 f3 f4 f5 f6 : Nat → Int) (w : World) (hn : n ≤ 65536) (i1 : IntIn .u32 w a1 n f1) (i2 : IntIn .u32 w a2 n f2) (i3 : IntIn .u32 w a3 n f3) (i4 : IntIn .u32 w a4 n f4) (i5 : IntIn .u32 w a5 n f5) (i6 : IntIn .u32 w a6 n f6) :
    Calls Try.prog 13 #[.int .u32 o0, .int .u32 o1, .int .u32 o2, .int .u32 o3, .slice a0 n c0, .slice a1 n c1, .slice a2 n c2, .slice a3 n c3, .slice a4 n c4, .slice a5 n c5, .slice a6 n c6] w (SomeBool w) := by
  have I1 := Lib.hid i1
  have I2 := Lib.hid i2
  have I3 := Lib.hid i3
  have I4 := Lib.hid i4
  have I5 := Lib.hid i5
  have I6 := Lib.hid i6
  clear i1 i2 i3 i4 i5 i6
  obtain ⟨r0, e0⟩ : ∃ r, reachB o0 o1 = r := ⟨_, rfl⟩
  obtain ⟨r1, e1⟩ : ∃ r, reachB o2 o3 = r := ⟨_, rfl⟩
  have E0 := Lib.hid e0
  have E1 := Lib.hid e1
  clear e0 e1
  by_cases ht : 1048576 < (n : Int) + 4 * ((n : Int) + n + n + n + n + n)
  · go_enter Try.func13, Try.ntmps13
    go_wp2_with fail
    go_ret
    exact ⟨_, rfl, by go_grown⟩
  cases r0
  · go_enter Try.func13, Try.ntmps13
    go_wp2_with (first | (go_at_call 23; (with_reducible refine (reach_eq _ _ false _ E0).mono ?_); rintro e w' ⟨rfl, rfl⟩))
    go_ret
    exact ⟨_, rfl, by go_grown⟩
  cases r1
  · go_enter Try.func13, Try.ntmps13
    go_wp2_with (first | (go_at_call 23; (with_reducible refine (reach_eq _ _ true _ E0).mono ?_); rintro e w' ⟨rfl, rfl⟩) | (go_at_call 23; (with_reducible refine (reach_eq _ _ false _ E1).mono ?_); rintro e w' ⟨rfl, rfl⟩))
    go_ret
    exact ⟨_, rfl, by go_grown⟩
  go_enter Try.func13, Try.ntmps13
  go_wp2_with (first | (go_at_call 23; (with_reducible refine (reach_eq _ _ true _ E0).mono ?_); rintro e w' ⟨rfl, rfl⟩) | (go_at_call 23; (with_reducible refine (reach_eq _ _ true _ E1).mono ?_); rintro e w' ⟨rfl, rfl⟩))
  go_loopw [24] (fun i wr => ∃ k : Nat, k ≤ n ∧ i = .int .i64 k ∧ Below w.heap.size w wr) (fun i _ => n - (intOf i).toNat)
  case atStart => exact ⟨0, Nat.zero_le _, rfl, by go_grown⟩
  case round =>
    obtain ⟨k, hk, rfl, hB⟩ := hrel
    by_cases hlt : k < n
    · obtain ⟨x1, rfl, k1⟩ := I1.out k hlt
      obtain ⟨x2, rfl, k2⟩ := I2.out k hlt
      obtain ⟨x3, rfl, k3⟩ := I3.out k hlt
      obtain ⟨x4, rfl, k4⟩ := I4.out k hlt
      obtain ⟨x5, rfl, k5⟩ := I5.out k hlt
      obtain ⟨x6, rfl, k6⟩ := I6.out k hlt
      have k1 := cell_later hB k1
      have k2 := cell_later hB k2
      have k3 := cell_later hB k3
      have k4 := cell_later hB k4
      have k5 := cell_later hB k5
      have k6 := cell_later hB k6
      have b1 : (0 : Int) ≤ (k : Int) := by omega
      have b2 : (k : Int) < (n : Int) := by omega
      obtain ⟨s1, p1⟩ : ∃ r, reachB (f1 k) (f2 k) = r := ⟨_, rfl⟩
      obtain ⟨s2, p2⟩ : ∃ r, reachB (f3 k) (f4 k) = r := ⟨_, rfl⟩
      obtain ⟨s3, p3⟩ : ∃ r, reachB (f5 k) (f6 k) = r := ⟨_, rfl⟩
      have P1 := Lib.hid p1
      have P2 := Lib.hid p2
      have P3 := Lib.hid p3
      clear p1 p2 p3
      cases s1
      · go_wp2_with fail
        go_quiet ((go_at_call 23; exact Calls.quiet_of_same (reach_is _ _ false _ P1)))
        go_wp2_with fail
        go_ret
        exact ⟨_, rfl, below_next hB (below_drewN _ _)⟩
      cases s2
      · go_wp2_with fail
        go_quiet (first | (go_at_call 23; exact Calls.quiet_of_same (reach_is _ _ true _ P1)) | (go_at_call 23; exact Calls.quiet_of_same (reach_is _ _ false _ P2)))
        go_wp2_with fail
        go_ret
        exact ⟨_, rfl, below_next hB (below_drewN _ _)⟩
      cases s3
      · go_wp2_with fail
        go_quiet (first | (go_at_call 23; exact Calls.quiet_of_same (reach_is _ _ true _ P1)) | (go_at_call 23; exact Calls.quiet_of_same (reach_is _ _ true _ P2)) | (go_at_call 23; exact Calls.quiet_of_same (reach_is _ _ false _ P3)))
        go_wp2_with fail
        go_ret
        exact ⟨_, rfl, below_next hB (below_drewN _ _)⟩
      · go_wp2_with fail
        go_quiet (first | (go_at_call 23; exact Calls.quiet_of_same (reach_is _ _ true _ P1)) | (go_at_call 23; exact Calls.quiet_of_same (reach_is _ _ true _ P2)) | (go_at_call 23; exact Calls.quiet_of_same (reach_is _ _ true _ P3)))
        go_wp2_with fail
        go_roundw
        case rel => exact ⟨k + 1, by omega, by go_num, below_next hB (below_drewN _ _)⟩
        case measure => simp [intOf]; omega
    · go_wp2_with fail
      go_ret
      exact ⟨_, rfl, hB⟩
set_option maxRecDepth 100000 in
set_option maxHeartbeats 2000000 in
theorem fits_ne (o0 o1 o2 o3 : Int) (a0 a1 a2 a3 a4 a5 a6 : Option Addr) (n0 n1 n2 n3 n4 n5 n6 c0 c1 c2 c3 c4 c5 c6 : Nat) (w : World) (l0 : n0 ≤ 65536) (l1 : n1 ≤ 65536) (l2 : n2 ≤ 65536) (l3 : n3 ≤ 65536) (l4 : n4 ≤ 65536) (l5 : n5 ≤ 65536) (l6 : n6 ≤ 65536) (h : (n1 ≠ n0) ∨ (n0 = n1 ∧ n2 ≠ n0) ∨ (n0 = n1 ∧ n0 = n2 ∧ n3 ≠ n0) ∨ (n0 = n1 ∧ n0 = n2 ∧ n0 = n3 ∧ n4 ≠ n0) ∨ (n0 = n1 ∧ n0 = n2 ∧ n0 = n3 ∧ n0 = n4 ∧ n5 ≠ n0) ∨ (n0 = n1 ∧ n0 = n2 ∧ n0 = n3 ∧ n0 = n4 ∧ n0 = n5 ∧ n6 ≠ n0)) :
    Calls Try.prog 13 #[.int .u32 o0, .int .u32 o1, .int .u32 o2, .int .u32 o3, .slice a0 n0 c0, .slice a1 n1 c1, .slice a2 n2 c2, .slice a3 n3 c3, .slice a4 n4 c4, .slice a5 n5 c5, .slice a6 n6 c6] w fun e w' => e = .returned (.bool false) ∧ Below w.heap.size w w' := by
  by_cases ht : 1048576 < (n0 : Int) + 4 * ((n1 : Int) + n2 + n3 + n4 + n5 + n6)
  · go_enter Try.func13, Try.ntmps13
    go_wp2_with fail
    go_ret
    exact ⟨rfl, by go_grown⟩
  rcases h with h | ⟨rfl, h⟩ | ⟨rfl, rfl, h⟩ | ⟨rfl, rfl, rfl, h⟩ | ⟨rfl, rfl, rfl, rfl, h⟩ | ⟨rfl, rfl, rfl, rfl, rfl, h⟩
  · have q1 : (n1 != n0) = true := by simp; omega
    have q2 : ((n1 : Int) != (n0 : Int)) = true := by simp; omega
    have q3 : ∀ m : Nat, (m != m) = false := fun m => by simp
    have q4 : ∀ m : Int, (m != m) = false := fun m => by simp
    go_enter Try.func13, Try.ntmps13
    go_wp2_with fail
    go_ret
    exact ⟨rfl, by go_grown⟩
  · have q1 : (n2 != n0) = true := by simp; omega
    have q2 : ((n2 : Int) != (n0 : Int)) = true := by simp; omega
    have q3 : ∀ m : Nat, (m != m) = false := fun m => by simp
    have q4 : ∀ m : Int, (m != m) = false := fun m => by simp
    go_enter Try.func13, Try.ntmps13
    go_wp2_with fail
    go_ret
    exact ⟨rfl, by go_grown⟩
  · have q1 : (n3 != n0) = true := by simp; omega
    have q2 : ((n3 : Int) != (n0 : Int)) = true := by simp; omega
    have q3 : ∀ m : Nat, (m != m) = false := fun m => by simp
    have q4 : ∀ m : Int, (m != m) = false := fun m => by simp
    go_enter Try.func13, Try.ntmps13
    go_wp2_with fail
    go_ret
    exact ⟨rfl, by go_grown⟩
  · have q1 : (n4 != n0) = true := by simp; omega
    have q2 : ((n4 : Int) != (n0 : Int)) = true := by simp; omega
    have q3 : ∀ m : Nat, (m != m) = false := fun m => by simp
    have q4 : ∀ m : Int, (m != m) = false := fun m => by simp
    go_enter Try.func13, Try.ntmps13
    go_wp2_with fail
    go_ret
    exact ⟨rfl, by go_grown⟩
  · have q1 : (n5 != n0) = true := by simp; omega
    have q2 : ((n5 : Int) != (n0 : Int)) = true := by simp; omega
    have q3 : ∀ m : Nat, (m != m) = false := fun m => by simp
    have q4 : ∀ m : Int, (m != m) = false := fun m => by simp
    go_enter Try.func13, Try.ntmps13
    go_wp2_with fail
    go_ret
    exact ⟨rfl, by go_grown⟩
  · have q1 : (n6 != n0) = true := by simp; omega
    have q2 : ((n6 : Int) != (n0 : Int)) = true := by simp; omega
    have q3 : ∀ m : Nat, (m != m) = false := fun m => by simp
    have q4 : ∀ m : Int, (m != m) = false := fun m => by simp
    go_enter Try.func13, Try.ntmps13
    go_wp2_with fail
    go_ret
    exact ⟨rfl, by go_grown⟩
end Go.Proofs.Ythmbphgpkpjopaa.fnDeclClausePosNotAfterEnd
