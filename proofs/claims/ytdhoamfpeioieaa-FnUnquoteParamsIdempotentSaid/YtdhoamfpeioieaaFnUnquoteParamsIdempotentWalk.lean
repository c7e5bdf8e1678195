/- The walk of FnUnquoteParamsIdempotent: the Go text returns true. Conditions: none. -/
import Derived.Test.YtdhoamfpeioieaaUqBuild
import Derived.OpenShut
namespace Go.Proofs.Ytdhoamfpeioieaa.fnUnquoteParamsIdempotent
open Go.RowKit
set_option linter.unusedVariables false

set_option maxRecDepth 100000 in
set_option maxHeartbeats 1000000 in
theorem zuq_calm (W g n : Nat) (v : Nat → Value) (w : World) (h : Calm w W g n v) :
    Calls Try.prog 16 #[.iface 30 (.pointer (some ⟨W, 0, none⟩))] w fun e w' => e = .returned (.tuple #[.iface 30 (.pointer (some ⟨W, 0, none⟩)), .bool false]) ∧ Below w.heap.size w w' := by
  have HC := Lib.hid h
  clear h
  go_enter Try.func16, Try.ntmps16
  go_wp2_with fail
  refine (uq_calm w.heap.size W g n v _ (HC.out.below (by go_grown))).mono ?_
  rintro e w1 ⟨rfl, rfl⟩
  go_wp2_with fail
  go_quiet (fail)
  go_wp2
  go_ret2
  exact ⟨rfl, drewN_of (by go_grown)⟩
set_option maxRecDepth 100000 in
set_option maxHeartbeats 1000000 in
theorem zuq_loud (W : Nat) (w : World) (h : Loud w W w.heap.size) :
    Calls Try.prog 16 #[.iface 30 (.pointer (some ⟨W, 0, none⟩))] w fun e w' => e = .returned (.tuple #[.iface 30 (.pointer (some ⟨W, 0, none⟩)), .bool true]) ∧ (∃ g v, Calm w' W g 1 v) ∧ Below W w w' := by
  have hWs : W < w.heap.size := by obtain ⟨_, _, _, _, ⟨_, _, _, h⟩, _⟩ := h; exact h
  have hl : ∀ o, Loud (w.alloc o) W w.heap.size := by
    obtain ⟨g, b, h, c, hz, c0, c1, c2, c3, f0, hne⟩ := h
    intro o
    refine ⟨g, b, h, c, hz, cell_alloc c0, cell_alloc c1, cell_alloc c2, cell_alloc c3, ?_, hne⟩
    simp [go_sem, hWs, f0]
  have HL := Lib.hid hl
  clear h hl
  go_enter Try.func16, Try.ntmps16
  go_wp2_with fail
  refine (uq_loud w.heap.size W _ (HL.out _) (by simp [go_sem]) (by simp [go_sem])).mono ?_
  rintro e w1 ⟨rfl, hc, ⟨g, v, hcalm⟩, hb⟩
  have HC := Lib.hid hcalm
  have HB := Lib.hid (show Below W w w1 from ((Below.refl _ _).alloc (Nat.le_of_lt hWs) _).trans hb)
  have hz : w.heap.size < w1.heap.size := by have := World.block_lt_of_cell? w1 _ hc; simpa using this
  clear hcalm hb
  go_wp2_with fail
  go_quiet (fail)
  go_wp2
  go_ret2
  exact ⟨rfl, ⟨g, v, HC.out.below (below_drewN _ _)⟩, drewN_of HB.out⟩
/-- both ways in one -/
theorem zuq_first (W n : Nat) (w : World) (h : (∃ g v, Calm w W g n v) ∨ (n = 1 ∧ Loud w W w.heap.size)) (B : Nat) (hB : B ≤ W) (hBs : B ≤ w.heap.size) :
    Calls Try.prog 16 #[.iface 30 (.pointer (some ⟨W, 0, none⟩))] w fun e w' => ∃ m g v, e = .returned (.tuple #[.iface 30 (.pointer (some ⟨W, 0, none⟩)), .bool m]) ∧ Calm w' W g n v ∧ Below B w w' := by
  rcases h with ⟨g, v, h⟩ | ⟨rfl, h⟩
  · exact (zuq_calm W g n v w h).mono fun e w' ⟨he, hb⟩ => ⟨false, g, v, he, h.below hb, hb.mono hBs⟩
  · exact (zuq_loud W w h).mono fun e w' ⟨he, ⟨g, v, hc⟩, hb⟩ => ⟨true, g, v, he, hc, hb.mono hB⟩
set_option maxHeartbeats 400000 in
theorem ztw_any (a : Addr) (w : World) : Calls Try.prog 18 #[.iface 30 (.pointer (some a))] w fun e w' => e = .returned (.pointer (some a)) ∧ w' = w := by
  have t1 := as_TestExpr_Word_Word
  go_enter Try.func18, Try.ntmps18
  go_wp2
  go_ret
  exact ⟨rfl, rfl⟩
theorem uqb_any (n ok m ik : Nat) (s : ByteArray) (w : World) (hn : n ≤ 65536) (hm : m ≤ 65536) (ho : ok < 3) (hi : ik < 3) :
    Calls Try.prog 15 #[.int .i64 n, .int .i64 ok, .int .i64 m, .int .i64 ik, .string s] w (UqMade n w) := by
  have h3 : ok = 0 ∨ ok = 1 ∨ ok = 2 := by omega
  have h4 : ik = 0 ∨ ik = 1 ∨ ik = 2 := by omega
  rcases h3 with rfl | rfl | rfl <;> rcases h4 with rfl | rfl | rfl
  · exact uqb_0_0 n m s w hn hm
  · exact uqb_1_0 n m s w hn hm
  · exact uqb_2_0 n m s w hn hm
  · exact uqb_0_1 n m s w hn hm
  · exact uqb_1_1 n m s w hn hm
  · exact uqb_2_1 n m s w hn hm
  · exact uqb_0_2 n m s w hn hm
  · exact uqb_1_2 n m s w hn hm
  · exact uqb_2_2 n m s w hn hm
set_option maxRecDepth 100000 in
set_option maxHeartbeats 4000000 in
theorem main (n ok m ik : Nat) (s : ByteArray) (w : World) (hn : n ≤ 65536) (hm : m ≤ 65536) (ho : ok < 3) (hi : ik < 3) (hs : s.size ≤ 1048576) :
    Calls Try.prog 5 #[.int .i64 n, .int .i64 ok, .int .i64 m, .int .i64 ik, .string s] w fun e w' => e = .returned (.bool true) ∧ Below w.heap.size w w' := by
  have o3 : (ok : Int) ≤ 2 := by omega
  have i3 : (ik : Int) ≤ 2 := by omega
  have q1 := ne_Word
  go_enter Try.func5, Try.ntmps5
  go_wp2_with (go_at_call 14; go_in)
  refine (uqb_any n ok m ik s _ hn hm ho hi).mono ?_
  rintro e w1 ⟨W, P, D, rfl, hW, hmade, hb1⟩
  have HM := Lib.hid hmade
  have H1 := Lib.hid hb1
  have hW := Lib.hid hW
  clear hmade hb1
  go_wp2_with fail
  refine (zuq_first W n _ HM.out w.heap.size hW.out H1.out.size).mono ?_
  rintro e w2 ⟨md, g, v, rfl, hc, hb2⟩
  have HC := Lib.hid hc
  have H2 := Lib.hid (H1.out.trans hb2)
  clear hc hb2 HM H1
  obtain ⟨_, c0, _⟩ := HC.out
  have z0 := World.block_lt_of_cell? _ _ c0
  simp only at z0
  go_wp2_with fail
  refine (cpp_any g n n v _ hn HC.out.2.2.1).mono ?_
  rintro e w3 ⟨rfl, hr3, hb3⟩
  have HR := Lib.hid hr3
  have HC := Lib.hid (HC.out.below hb3)
  have H3 := Lib.hid (below_next H2.out hb3)
  clear hr3 hb3 H2 c0 z0
  go_wp2_with fail
  refine (zuq_calm W g n v _ HC.out).mono ?_
  rintro e w4 ⟨rfl, hb4⟩
  have HR := Lib.hid (HR.out.below hb4)
  have HC := Lib.hid (HC.out.below hb4)
  have H4 := Lib.hid (below_next H3.out hb4)
  clear hb4 H3
  obtain ⟨_, c0, _⟩ := HC.out
  have z0 := World.block_lt_of_cell? _ _ c0
  simp only at z0
  go_wp2_with (go_at_call 18; (with_reducible refine (ztw_any _ _).mono ?_); rintro e w' ⟨rfl, rfl⟩)
  refine (spp_any g _ n n n v _ hn HC.out.2.2.1 HR.out).mono ?_
  rintro e w5 ⟨rfl, hb5⟩
  have H5 := Lib.hid (below_next H4.out hb5)
  clear hb5
  go_wp2_with fail
  go_ret
  exact ⟨rfl, H5.out⟩
set_option maxRecDepth 100000 in
set_option maxHeartbeats 1000000 in
theorem walk (a0 : Int) (a1 : Int) (a2 : Int) (a3 : Int) (a4 : ByteArray) (w : World) (w0 : (Lit.int .i64 a0).wf = true) (w1 : (Lit.int .i64 a1).wf = true) (w2 : (Lit.int .i64 a2).wf = true) (w3 : (Lit.int .i64 a3).wf = true) (w4 : a4.size ≤ maxLen) :
    Calls Try.prog 5 #[.int .i64 a0, .int .i64 a1, .int .i64 a2, .int .i64 a3, .string a4] w fun e w' => e = .returned (.bool true) ∧ Below w.heap.size w w' := by
  have b0 := bounds_i64 w0
  have b1 := bounds_i64 w1
  have b2 := bounds_i64 w2
  have b3 := bounds_i64 w3
  clear w0 w1 w2 w3
  by_cases g1 : 1048576 < a4.size
  · go_enter Try.func5, Try.ntmps5
    go_wp2_with (go_at_call 14; go_in)
    go_ret
    exact ⟨rfl, by go_grown⟩
  by_cases g2 : a0 < 0 ∨ 65536 < a0
  · rcases g2 with g2 | g2
    all_goals
      go_enter Try.func5, Try.ntmps5
      go_wp2_with (go_at_call 14; go_in)
      go_ret
      exact ⟨rfl, by go_grown⟩
  by_cases g3 : a2 < 0 ∨ 65536 < a2
  · rcases g3 with g3 | g3
    all_goals
      go_enter Try.func5, Try.ntmps5
      go_wp2_with (go_at_call 14; go_in)
      go_ret
      exact ⟨rfl, by go_grown⟩
  by_cases g4 : a1 < 0 ∨ 2 < a1
  · rcases g4 with g4 | g4
    all_goals
      go_enter Try.func5, Try.ntmps5
      go_wp2_with (go_at_call 14; go_in)
      go_ret
      exact ⟨rfl, by go_grown⟩
  by_cases g5 : a3 < 0 ∨ 2 < a3
  · rcases g5 with g5 | g5
    all_goals
      go_enter Try.func5, Try.ntmps5
      go_wp2_with (go_at_call 14; go_in)
      go_ret
      exact ⟨rfl, by go_grown⟩
  obtain ⟨n, rfl⟩ := Int.eq_ofNat_of_zero_le (show 0 ≤ a0 by omega)
  obtain ⟨ok, rfl⟩ := Int.eq_ofNat_of_zero_le (show 0 ≤ a1 by omega)
  obtain ⟨m, rfl⟩ := Int.eq_ofNat_of_zero_le (show 0 ≤ a2 by omega)
  obtain ⟨ik, rfl⟩ := Int.eq_ofNat_of_zero_le (show 0 ≤ a3 by omega)
  exact main n ok m ik a4 w (by omega) (by omega) (by omega) (by omega) (by omega)
end Go.Proofs.Ytdhoamfpeioieaa.fnUnquoteParamsIdempotent
