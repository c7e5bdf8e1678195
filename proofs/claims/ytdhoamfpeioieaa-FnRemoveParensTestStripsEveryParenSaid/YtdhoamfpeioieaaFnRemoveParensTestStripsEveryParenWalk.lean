/- The walk of FnRemoveParensTestStripsEveryParen: the Go text returns true. Conditions: none. -/
import Derived.Test.YtdhoamfpeioieaaRpt
import Derived.OpenShut
namespace Go.Proofs.Ytdhoamfpeioieaa.fnRemoveParensTestStripsEveryParen
open Go.RowKit
set_option linter.unusedVariables false

theorem chain_of {n W U B g : Nat} {iv : Value} {w : World} (h : Built n iv W U B g w) : ∀ (m i : Nat), i + (m + 1) = n → Chain 62 w (g + 1) (g + 1 + n) iv (m + 1) (.iface 62 (ptrV (g + 1) i)) := by
  obtain ⟨_, _, _, _, _, hc, hl⟩ := h
  intro m
  induction m with
  | zero =>
    intro i hi
    have e : i = n - 1 := by omega
    refine ⟨g + 1 + i, iv, rfl, by omega, by omega, ?_, rfl⟩
    rw [e]
    exact hl (by omega)
  | succ m ih =>
    intro i hi
    exact ⟨g + 1 + i, _, rfl, by omega, by omega, hc i (by omega), ih (i + 1) (by omega)⟩
theorem kind3 (kind : Int) : kind = 1 ∨ kind = 2 ∨ ((kind == 1) = false ∧ (kind == 2) = false ∧ kind ≠ 1 ∧ kind ≠ 2) := by
  by_cases h1 : kind = 1
  · exact .inl h1
  · by_cases h2 : kind = 2
    · exact .inr (.inl h2)
    · exact .inr (.inr ⟨by simp [h1], by simp [h2], h1, h2⟩)
theorem inner_no (kind : Int) (W U B : Nat) : ∀ V : World, (Instr.typeAssert (innerV kind W U B) 45 62 true).run Try.prog V = .ok (.tuple #[.pointer none, .bool false]) V := by
  intro V
  unfold innerV
  split
  · exact as_TestExpr_UnaryTest_ParenTest _ V
  · split
    · exact as_TestExpr_BinaryTest_ParenTest _ V
    · exact as_TestExpr_Word_ParenTest _ V
set_option maxHeartbeats 1000000 in
theorem ii_any (kind : Int) (W U B : Nat) (w : World) :
    Calls Try.prog 23 #[innerV kind W U B, .int .i64 kind, .pointer (some ⟨W, 0, none⟩), .pointer (some ⟨U, 0, none⟩), .pointer (some ⟨B, 0, none⟩)] w fun e w' => e = .returned (.bool true) ∧ w = w' := by
  have t1 := as_TestExpr_UnaryTest_UnaryTest
  have t2 := as_TestExpr_BinaryTest_BinaryTest
  have t3 := as_TestExpr_Word_Word
  have q1 := eq_UnaryTest
  have q2 := eq_BinaryTest
  have q3 := eq_Word
  rcases kind3 kind with rfl | rfl | ⟨h1, h2, h3, h4⟩
  · rw [show innerV 1 W U B = .iface 55 (.pointer (some ⟨U, 0, none⟩)) by simp [innerV]]
    go_enter Try.func23, Try.ntmps23
    go_wp2_with (first | (go_at_call 33; go_in) | (go_at_call 34; go_in) | (go_at_call 35; go_in))
    go_ret
    exact ⟨rfl, rfl⟩
  · rw [show innerV 2 W U B = .iface 56 (.pointer (some ⟨B, 0, none⟩)) by simp [innerV]]
    go_enter Try.func23, Try.ntmps23
    go_wp2_with (first | (go_at_call 33; go_in) | (go_at_call 34; go_in) | (go_at_call 35; go_in))
    go_ret
    exact ⟨rfl, rfl⟩
  · rw [show innerV kind W U B = .iface 30 (.pointer (some ⟨W, 0, none⟩)) by simp [innerV, h3, h4]]
    go_enter Try.func23, Try.ntmps23
    go_wp2_with (first | (go_at_call 33; go_in) | (go_at_call 34; go_in) | (go_at_call 35; go_in))
    go_ret
    exact ⟨rfl, rfl⟩
set_option maxHeartbeats 1000000 in
theorem rc_any (n : Nat) (kind : Int) (W U B g : Nat) (w : World) (hn : n ≤ 65536) (hb : Built n (innerV kind W U B) W U B g w) :
    Calls Try.prog 22 #[.slice (some ⟨g, 0, none⟩) n n, .int .i64 kind, .pointer (some ⟨W, 0, none⟩), .pointer (some ⟨U, 0, none⟩), .pointer (some ⟨B, 0, none⟩)] w fun e w' => e = .returned (.tuple #[innerV kind W U B, .bool (decide (0 < n))]) ∧ Below w.heap.size w w' := by
  by_cases h0 : 0 < n
  · obtain ⟨m, rfl⟩ : ∃ m, n = m + 1 := ⟨n - 1, by omega⟩
    have hch := chain_of hb m 0 (by omega)
    have c0 := hb.2.2.2.2.1 0 (by omega)
    have hz := hb.2.2.2.1
    have HC := Lib.hid (hch.wide hz)
    have z0 := World.block_lt_of_cell? _ _ c0
    simp only at z0
    have e0 : ptrV (g + 1) 0 = .pointer (some ⟨g + 1, 0, none⟩) := rfl
    rw [e0] at c0 HC
    have v1 : (0 : Int) < ((m + 1 : Nat) : Int) := by omega
    clear hch hb hz e0
    go_enter Try.func22, Try.ntmps22
    go_wp2_with fail
    refine (zrpTest_any (g + 1) (innerV kind W U B) _ (m + 1) _ HC.out (inner_no kind W U B)).mono ?_
    rintro e w1 ⟨⟨b, rfl, rfl⟩, hb1⟩
    go_wp2_with fail
    go_ret2
    exact ⟨rfl, hb1⟩
  · obtain rfl : n = 0 := by omega
    have e0 : decide (0 < 0) = false := rfl
    rcases kind3 kind with rfl | rfl | ⟨h1, h2, h3, h4⟩
    · have e1 : innerV 1 W U B = .iface 55 (.pointer (some ⟨U, 0, none⟩)) := by simp [innerV]
      have hv := inner_no 1 W U B
      rw [e1] at hv ⊢
      have HV := Lib.hid hv
      clear hv hb e1
      go_enter Try.func22, Try.ntmps22
      go_wp2_with fail
      refine (zrpTest_any 0 _ _ 0 _ (show Chain 62 _ 0 _ _ 0 _ from rfl) HV.out).mono ?_
      rintro e w1 ⟨⟨b, rfl, rfl⟩, hb1⟩
      go_wp2_with fail
      go_ret2
      exact ⟨rfl, hb1⟩
    · have e1 : innerV 2 W U B = .iface 56 (.pointer (some ⟨B, 0, none⟩)) := by simp [innerV]
      have hv := inner_no 2 W U B
      rw [e1] at hv ⊢
      have HV := Lib.hid hv
      clear hv hb e1
      go_enter Try.func22, Try.ntmps22
      go_wp2_with fail
      refine (zrpTest_any 0 _ _ 0 _ (show Chain 62 _ 0 _ _ 0 _ from rfl) HV.out).mono ?_
      rintro e w1 ⟨⟨b, rfl, rfl⟩, hb1⟩
      go_wp2_with fail
      go_ret2
      exact ⟨rfl, hb1⟩
    · have e1 : innerV kind W U B = .iface 30 (.pointer (some ⟨W, 0, none⟩)) := by simp [innerV, h3, h4]
      have hv := inner_no kind W U B
      rw [e1] at hv ⊢
      have HV := Lib.hid hv
      clear hv hb e1 h3 h4
      go_enter Try.func22, Try.ntmps22
      go_wp2_with fail
      refine (zrpTest_any 0 _ _ 0 _ (show Chain 62 _ 0 _ _ 0 _ from rfl) HV.out).mono ?_
      rintro e w1 ⟨⟨b, rfl, rfl⟩, hb1⟩
      go_wp2_with fail
      go_ret2
      exact ⟨rfl, hb1⟩
theorem rc_is (n : Nat) (kind : Int) (W U B g : Nat) (r : Bool) (w : World) (hn : n ≤ 65536) (hb : Built n (innerV kind W U B) W U B g w) (hr : Hid (decide (0 < n) = r)) :
    Calls Try.prog 22 #[.slice (some ⟨g, 0, none⟩) n n, .int .i64 kind, .pointer (some ⟨W, 0, none⟩), .pointer (some ⟨U, 0, none⟩), .pointer (some ⟨B, 0, none⟩)] w fun e w' => e = .returned (.tuple #[innerV kind W U B, .bool r]) ∧ Below w.heap.size w w' := by
  rw [← hr.out]; exact rc_any n kind W U B g w hn hb
set_option maxHeartbeats 400000 in
theorem ap_any (a : Addr) (w : World) : Calls Try.prog 24 #[.iface 62 (.pointer (some a))] w fun e w' => e = .returned (.pointer (some a)) ∧ w' = w := by
  have t1 := as_TestExpr_ParenTest_ParenTest
  go_enter Try.func24, Try.ntmps24
  go_wp2
  go_ret
  exact ⟨rfl, rfl⟩
theorem built_below {n W U B g : Nat} {iv : Value} {w w' : World} (h : Built n iv W U B g w) (hb : Below w.heap.size w w') : Built n iv W U B g w' := by
  obtain ⟨h1, h2, ⟨a, c, h3⟩, h4, h5, h6, h7⟩ := h
  exact ⟨cell_below hb h1, cell_below hb h2, ⟨a, c, cell_below hb h3⟩, Nat.le_trans h4 hb.size, fun i hi => cell_below hb (h5 i hi), fun i hi => cell_below hb (h6 i hi), fun h => cell_below hb (h7 h)⟩
set_option maxRecDepth 100000 in
set_option maxHeartbeats 4000000 in
theorem main (n : Nat) (kind : Int) (s : ByteArray) (w : World) (hn : n ≤ 65536) (hs : s.size ≤ 1048576) :
    Calls Try.prog 6 #[.int .i64 n, .int .i64 kind, .string s] w fun e w' => e = .returned (.bool true) ∧ Below w.heap.size w w' := by
  go_enter Try.func6, Try.ntmps6
  go_wp2_with (go_at_call 20; go_in)
  refine (bd_any n kind s _ hn).mono ?_
  rintro e w1 ⟨W, U, B, g, rfl, hBt, hb1⟩
  have HB := Lib.hid hBt
  have H1 := Lib.hid hb1
  clear hBt hb1
  obtain ⟨r, er⟩ : ∃ r, decide (0 < n) = r := ⟨_, rfl⟩
  have ER := Lib.hid er
  clear er
  go_wp2_with fail
  refine (rc_is n kind W U B g r _ hn HB.out ER).mono ?_
  rintro e w2 ⟨rfl, hb2⟩
  have HB := Lib.hid (built_below HB.out hb2)
  have H2 := Lib.hid (below_next H1.out hb2)
  clear hb2 H1
  cases r
  · obtain rfl : n = 0 := by have := ER.out; simp at this; exact this
    obtain ⟨u2, b2, ⟨a2, cc, x2⟩, hz, _⟩ := HB.out
    go_wp2_with (first | (go_at_call 23; (with_reducible refine (ii_any kind W U B _).mono ?_); rintro e w' ⟨rfl, rfl⟩))
    go_loopw [13] (fun i wr => i = .int .i64 0 ∧ Hid (Below w.heap.size w wr ∧ Built 0 (innerV kind W U B) W U B g wr)) (fun _ _ => 0)
    case atStart => exact ⟨rfl, Lib.hid ⟨H2.out, HB.out⟩⟩
    case round =>
      obtain ⟨rfl, HR⟩ := hrel
      clear u2 b2 x2
      obtain ⟨u2, b2, ⟨a2, cc, x2⟩, hz, _⟩ := HR.out.2
      go_wp2_with fail
      go_ret
      exact ⟨rfl, HR.out.1⟩
  · have h0 : 0 < n := by have := ER.out; simpa using this
    have h0' : (0 : Int) < (n : Int) := by omega
    go_wp2_with (first | (go_at_call 23; (with_reducible refine (ii_any kind W U B _).mono ?_); rintro e w' ⟨rfl, rfl⟩))
    go_loopw [13] (fun i wr => ∃ k : Nat, k + 1 ≤ n ∧ i = .int .i64 k ∧ Hid (Below w.heap.size w wr ∧ Built n (innerV kind W U B) W U B g wr)) (fun i _ => n - (intOf i).toNat)
    case atStart => exact ⟨0, by omega, rfl, Lib.hid ⟨H2.out, HB.out⟩⟩
    case round =>
      obtain ⟨k, hk, rfl, HR⟩ := hrel
      obtain ⟨u2, b2, ⟨a2, cc, x2⟩, hz, hr, hc, hl⟩ := HR.out.2
      by_cases hlt : k + 1 < n
      · have c1 := hr k (by omega)
        have c2 := hr (k + 1) hlt
        have c3 := hc k hlt
        unfold ptrV at c1 c2 c3
        clear hr hc hl u2 b2 x2
        have v0 : (0 : Int) ≤ (k : Int) := by omega
        have v4 : (k : Int) < (n : Int) := by omega
        have v1 := IntWalk.i64_in ((k : Int) + 1) (by omega)
        have v2 : (0 : Int) ≤ (k : Int) + 1 := by omega
        have v3 : ((k : Int) + 1).toNat = k + 1 := by omega
        have v5 : (k : Int) + 1 < (n : Int) := by omega
        have hlt' : (k : Int) < (n : Int) - 1 := by omega
        have q1 := ne_ParenTest
        go_wp2_with fail
        go_quiet ((go_at_call 24; exact Calls.quiet_of_same (ap_any _ _)))
        go_wp2_with fail
        go_roundw
        case rel =>
          first
            | exact ⟨k + 1, by omega, by go_num, Lib.hid ⟨below_next HR.out.1 (below_drewN _ _), built_below HR.out.2 (below_drewN _ _)⟩⟩
            | ((repeat apply Exists.intro); exact ⟨⟨k + 1, by omega, by go_num, Lib.hid ⟨below_next HR.out.1 (below_drewN _ _), built_below HR.out.2 (below_drewN _ _)⟩⟩, rfl⟩)
        case measure => simp [intOf]; omega
      · obtain rfl : k + 1 = n := by omega
        have c1 := hr k (by omega)
        have c3 := hl (by omega)
        unfold ptrV at c1
        rw [Nat.add_sub_cancel] at c3
        clear hr hc hl
        have v0 : (0 : Int) ≤ (k : Int) := by omega
        have hq : ¬ (k : Int) < ((k + 1 : Nat) : Int) - 1 := by omega
        go_wp2_with (first | (go_at_call 23; (with_reducible refine (ii_any kind W U B _).mono ?_); rintro e w' ⟨rfl, rfl⟩))
        go_ret
        exact ⟨rfl, HR.out.1⟩
set_option maxRecDepth 100000 in
set_option maxHeartbeats 1000000 in
theorem walk (a0 : Int) (a1 : Int) (a2 : ByteArray) (w : World) (w0 : (Lit.int .i64 a0).wf = true) (w1 : (Lit.int .i64 a1).wf = true) (w2 : a2.size ≤ maxLen) :
    Calls Try.prog 6 #[.int .i64 a0, .int .i64 a1, .string a2] w fun e w' => e = .returned (.bool true) ∧ Below w.heap.size w w' := by
  have b0 := bounds_i64 w0
  have b1 := bounds_i64 w1
  clear w0 w1
  by_cases g1 : 1048576 < a2.size
  · go_enter Try.func6, Try.ntmps6
    go_wp2_with (go_at_call 20; go_in)
    go_ret
    exact ⟨rfl, by go_grown⟩
  by_cases g2 : a0 < 0
  · go_enter Try.func6, Try.ntmps6
    go_wp2_with (go_at_call 20; go_in)
    go_ret
    exact ⟨rfl, by go_grown⟩
  by_cases g3 : 65536 < a0
  · go_enter Try.func6, Try.ntmps6
    go_wp2_with (go_at_call 20; go_in)
    go_ret
    exact ⟨rfl, by go_grown⟩
  obtain ⟨n, rfl⟩ := Int.eq_ofNat_of_zero_le (show 0 ≤ a0 by omega)
  exact main n a1 a2 w (by omega) (by omega)
end Go.Proofs.Ytdhoamfpeioieaa.fnRemoveParensTestStripsEveryParen
