/- The walk of FnRemoveParensArithmIdempotentLeavesTree: the Go text returns true. Conditions: none. -/
import Derived.Test.YtoankohalfnemaaChain
namespace Go.Proofs.Ytoankohalfnemaa.fnRemoveParensArithmIdempotentLeavesTree
open Go.RowKit
set_option linter.unusedVariables false

/-- a node, or none: what the law's lists hold -/
def NodeV (v : Value) : Prop := v = .nilIface ∨ ∃ b, v = .iface 34 (.pointer (some ⟨b, 0, none⟩)) ∨ v = .iface 79 (.pointer (some ⟨b, 0, none⟩)) ∨ v = .iface 80 (.pointer (some ⟨b, 0, none⟩)) ∨ v = .iface 78 (.pointer (some ⟨b, 0, none⟩))
def InnV (v : Value) : Prop := v = .nilIface ∨ ∃ b, v = .iface 34 (.pointer (some ⟨b, 0, none⟩)) ∨ v = .iface 79 (.pointer (some ⟨b, 0, none⟩)) ∨ v = .iface 80 (.pointer (some ⟨b, 0, none⟩))
theorem InnV.node {v : Value} (h : InnV v) : NodeV v := by
  rcases h with h | ⟨b, h | h | h⟩
  · exact .inl h
  · exact .inr ⟨b, .inl h⟩
  · exact .inr ⟨b, .inr (.inl h)⟩
  · exact .inr ⟨b, .inr (.inr (.inl h))⟩
theorem NodeV.one {v : Value} (h : NodeV v) : v.oneCell' = true := by
  rcases h with rfl | ⟨b, rfl | rfl | rfl | rfl⟩ <;> rfl
theorem NodeV.form {v : Value} (h : NodeV v) : v = .nilIface ∨ ∃ T b, v = .iface T (.pointer (some ⟨b, 0, none⟩)) := by
  rcases h with h | ⟨b, h | h | h | h⟩
  · exact .inl h
  all_goals exact .inr ⟨_, b, h⟩
theorem InnV.no {v : Value} (h : InnV v) (W : World) : (Instr.typeAssert v 40 78 true).run Try.prog W = .ok (.tuple #[.pointer none, .bool false]) W := by
  rcases h with rfl | ⟨b, rfl | rfl | rfl⟩
  · exact as_ArithmExpr_nil_ParenArithm W
  · exact as_ArithmExpr_Word_ParenArithm _ W
  · exact as_ArithmExpr_BinaryArithm_ParenArithm _ W
  · exact as_ArithmExpr_UnaryArithm_ParenArithm _ W
set_option maxHeartbeats 1000000 in
theorem same_any (v : Value) (h : NodeV v) (w : World) : Calls Try.prog 19 #[v, v] w fun e w' => e = .returned (.bool true) ∧ ∃ n, w' = w.drewN n := by
  have e1 := eqi_ArithmExpr_Word
  have e2 := eqi_ArithmExpr_BinaryArithm
  have e3 := eqi_ArithmExpr_UnaryArithm
  have e4 := eqi_ArithmExpr_ParenArithm
  rcases h with rfl | ⟨b, rfl | rfl | rfl | rfl⟩
  · go_enter Try.func19, Try.ntmps19
    go_wp2_with fail
    go_quiet (fail)
    go_wp2
    go_ret
    exact ⟨rfl, _, rfl⟩
  all_goals
    go_enter Try.func19, Try.ntmps19
    go_wp2
    go_ret
    exact ⟨rfl, 0, rfl⟩
set_option maxHeartbeats 1000000 in
theorem inn_any (k : Nat) (hk : k ≤ 3) (s : ByteArray) (w : World) :
    Calls Try.prog 32 #[.int .i64 (k : Int), .string s] w fun e w' => ∃ v0 p1 p2 p3 p4, e = .returned (.tuple #[v0, p1, p2, p3, p4]) ∧ InnV v0 ∧ Below w.heap.size w w' := by
  have h : k = 0 ∨ k = 1 ∨ k = 2 ∨ k = 3 := by omega
  rcases h with rfl | rfl | rfl | rfl
  · show Calls Try.prog 32 #[.int .i64 0, .string s] w _
    go_enter Try.func32, Try.ntmps32
    go_wp2
    go_returns
    exact ⟨_, _, _, _, _, rfl, .inr ⟨_, .inl rfl⟩, by go_grown⟩
  · show Calls Try.prog 32 #[.int .i64 1, .string s] w _
    go_enter Try.func32, Try.ntmps32
    go_wp2
    go_returns
    exact ⟨_, _, _, _, _, rfl, .inr ⟨_, .inr (.inl rfl)⟩, by go_grown⟩
  · show Calls Try.prog 32 #[.int .i64 2, .string s] w _
    go_enter Try.func32, Try.ntmps32
    go_wp2
    go_returns
    exact ⟨_, _, _, _, _, rfl, .inr ⟨_, .inr (.inr rfl)⟩, by go_grown⟩
  · show Calls Try.prog 32 #[.int .i64 3, .string s] w _
    go_enter Try.func32, Try.ntmps32
    go_wp2
    go_returns
    exact ⟨_, _, _, _, _, rfl, .inl rfl, by go_grown⟩
theorem infoP : (Try.prog.info? 78).map (fun i => (i.zero, i.size, i.bytes)) = some (some (.pointer none), 1, 8) := by kernel_rfl
theorem infoA : (Try.prog.info? 40).map (fun i => (i.zero, i.size, i.bytes)) = some (some .nilIface, 1, 16) := by kernel_rfl
def PRel (d g1 g2 : Nat) (w : World) (v0 : Value) (vp vk x i : Value) (wr : World) : Prop :=
  ∃ k ps ks, k ≤ d ∧ i = .int .i64 k ∧ vp = .slice (some ⟨g1, 0, none⟩) k d ∧ vk = .slice (some ⟨g2, 0, none⟩) k d ∧
    wr.ownsRow w.heap.size 78 1 (.slice (some ⟨g1, 0, none⟩) k d) k ps ∧ wr.ownsRow w.heap.size 40 1 (.slice (some ⟨g2, 0, none⟩) k d) k ks ∧ Below w.heap.size w wr ∧ g2 < wr.heap.size ∧ NodeV x ∧
    Chain 78 wr (g2 + 1) wr.heap.size v0 k x ∧
    ∀ j, j < k → ∃ b v, ps[j]? = some (.pointer (some ⟨b, 0, none⟩)) ∧ ks[j]? = some v ∧ wr.cell? ⟨b, 4, none⟩ = some v ∧ g2 < b ∧ NodeV v
def LRel (d : Nat) (w8 : World) (i : Value) (wx : World) : Prop := ∃ j n : Nat, j ≤ d ∧ i = .int .i64 j ∧ wx = w8.drewN n
theorem one_new {w : World} {v : Value} {t : TypeId} : ∀ j u, [v][j]? = some u → (w.alloc (.cells #[v] t)).cell? ((⟨w.heap.size, 0, none⟩ : Addr).add j) = some u := by
  intro j u h
  cases j with
  | zero => simp at h; subst h; simp [Addr.add, go_sem]
  | succ j => simp at h
theorem one_new1 {w : World} {o : Obj} {v : Value} {t : TypeId} : ∀ j u, [v][j]? = some u → ((w.alloc o).alloc (.cells #[v] t)).cell? ((⟨w.heap.size + 1, 0, none⟩ : Addr).add j) = some u := by
  intro j u h
  have hs : (w.alloc o).heap.size = w.heap.size + 1 := by simp
  rw [← hs]
  exact one_new j u h
theorem one_is {v : Value} (h : v.oneCell' = true) : ∀ u ∈ [v], u.oneCell' = true := by
  intro u hu
  simp at hu
  rw [hu]; exact h
theorem step_cell {wr w4 w5 : World} {o2 o3 : Obj} {g1 g2 c i : Nat} {v : Value} (h : wr.cell? ⟨c, i, none⟩ = some v) (hg4 : (wr.alloc o2).grownBy w4 (some g1)) (hg5 : (w4.alloc o3).grownBy w5 (some g2)) (h1 : c ≠ g1) (h2 : c ≠ g2) : w5.cell? ⟨c, i, none⟩ = some v :=
  hg5.cell (cell_alloc (hg4.cell (cell_alloc h) (fun e => h1 (by injection e)))) (fun e => h2 (by injection e))

set_option maxRecDepth 100000 in
set_option maxHeartbeats 4000000 in
theorem main (d k3 : Nat) (s : ByteArray) (w : World) (hd : d ≤ 65536) (hk3 : k3 ≤ 3) (hs : s.size ≤ 1048576) :
    Calls Try.prog 8 #[.int .i64 (d : Int), .int .i64 (k3 : Int), .string s] w fun e w' => e = .returned (.bool true) ∧ Below w.heap.size w w' := by
  obtain ⟨i0, hi, hz0, hz1, hz2⟩ := info_parts infoP
  obtain ⟨i1, ki, kz0, kz1, kz2⟩ := info_parts infoA
  have HP := Lib.hid (And.intro hi (And.intro hz1 (And.intro hz2 hz0)))
  have HA := Lib.hid (And.intro ki (And.intro kz1 (And.intro kz2 kz0)))
  clear hi hz0 hz1 hz2 ki kz0 kz1 kz2
  go_enter Try.func8, Try.ntmps8
  go_wp2_with (first
    | (go_at_call 31; go_in)
    | (go_at_call 32; refine (inn_any k3 hk3 s _).mono ?_; rintro e w1 ⟨v0, p1, p2, p3, p4, rfl, hv0, hb1⟩; have HV := Lib.hid hv0; clear hv0)
    | (at_make; (refine wpList_make_own _ rfl _ _ 83 rfl w.heap.size 78 i0 (.pointer none) 1 Try.underlying83 HP.out.1 HP.out.2.2.2 HP.out.2.1 _ _ _ d rfl rfl rfl (by rw [HP.out.2.2.1]; omega) (by unfold maxLen; omega) hb1.size ?_); intro w2 hp2 hgr2; have hs2 := hgr2.size)
    | (at_make; (refine wpList_make_own _ rfl _ _ 84 rfl w.heap.size 40 i1 .nilIface 1 Try.underlying84 HA.out.1 HA.out.2.2.2 HA.out.2.1 _ _ _ d rfl rfl rfl (by rw [HA.out.2.2.1]; omega) (by unfold maxLen; omega) (Nat.le_trans hb1.size hs2) ?_); intro w3 hk3' hgr3))
  have hB2 : Below w.heap.size w w2 := hb1.grown hgr2 hb1.size (by simp)
  have hB3 : Below w.heap.size w w3 := hB2.grown hgr3 hB2.size (by simp)
  have hg12 : w1.heap.size < w2.heap.size := (hp2.lt w1.heap.size rfl).2
  have hR : PRel d w1.heap.size w2.heap.size w v0 (.slice (some ⟨w1.heap.size, 0, none⟩) 0 d) (.slice (some ⟨w2.heap.size, 0, none⟩) 0 d) v0 (.int .i64 0) w3 :=
    ⟨0, [], [], Nat.zero_le _, rfl, rfl, rfl, hp2.kept hgr3 (.inr (by simp [Value.ownBlock])), hk3', hB3, (hk3'.lt w2.heap.size rfl).2, HV.out.node, rfl, fun j hj => absurd hj (by omega)⟩
  have HR := Lib.hid hR
  have hw1 : w.heap.size ≤ w1.heap.size := hb1.size
  clear hR hp2 hgr2 hk3' hgr3 hB2 hB3 hs2 hb1
  go_loopw [12, 13, 14, 15] (fun vp vk x i wr => PRel d w1.heap.size w2.heap.size w v0 vp vk x i wr) (fun _ _ _ i _ => d - (intOf i).toNat)
  case atStart => exact HR.out
  case round =>
    clear HR
    obtain ⟨k, ps, ks, hk, rfl, rfl, rfl, hp, hq, hB, hgz, hnx, hch, hall⟩ := hrel
    have HC := Lib.hid hch
    have HL := Lib.hid hall
    have HN := Lib.hid hnx
    clear hch hall hnx
    by_cases hlt : k < d
    · rcases HN.out.form with rfl | ⟨T, bx, rfl⟩
      all_goals
        go_wp2_with (first
          | (at_builtin; (refine wpList_append_fits _ rfl _ _ 83 rfl w.heap.size 78 i0 1 Try.underlying83 HP.out.1 HP.out.2.1 w1.heap.size k d ps rfl ((hp.alloc _).alloc _) ⟨wr.heap.size + 1, 0, none⟩ 1 1 [.pointer (some ⟨wr.heap.size, 0, none⟩)] rfl rfl one_new1 (by simp [Value.oneCell']) (by omega) ?_); intro w4 hp4 hg4; have hq4 := ((hq.alloc _).alloc _).kept hg4 (.inr (by simp [Value.ownBlock]; omega)))
          | (at_builtin; (refine wpList_append_fits _ rfl _ _ 84 rfl w.heap.size 40 i1 1 Try.underlying84 HA.out.1 HA.out.2.1 w2.heap.size k d ks rfl (hq4.alloc _) ⟨w4.heap.size, 0, none⟩ 1 1 [_] rfl rfl one_new (one_is HN.out.one) (by omega) ?_); intro w5 hq5 hg5))
        go_roundw
        case rel =>
          have s4 := hg4.size
          have s5 := hg5.size
          simp at s4 s5
          have hl1 : ps.length = k := by have := hp.1; simpa using this
          have hl2 : ks.length = k := by have := hq.1; simpa using this
          have hsz := hB.size
          have hBa := ((hB.alloc hsz _).alloc (by simp; omega) _).grown hg4 (by simp; omega) (by intro g hg; injection hg; omega)
          have hBb := (hBa.alloc (by omega) _).grown hg5 (by simp; omega) (by intro g hg; injection hg; omega)
          refine ⟨k + 1, ps ++ [.pointer (some ⟨wr.heap.size, 0, none⟩)], ks ++ [_], by omega, by go_num, rfl, rfl, (hp4.alloc _).kept hg5 (.inr (by simp [Value.ownBlock]; omega)), hq5, hBb, by omega, .inr ⟨wr.heap.size, .inr (.inr (.inr rfl))⟩, ?_, ?_⟩
          · refine ⟨wr.heap.size, _, rfl, by omega, by omega, step_cell (by simp [go_sem]) hg4 hg5 (by omega) (by omega), Chain.keep (fun b v hl hh h => step_cell (cell_alloc h) hg4 hg5 (by omega) (by omega)) (Nat.le_refl _) (by omega) k _ HC.out⟩
          · intro j hj
            by_cases hjk : j < k
            · obtain ⟨b, v, h1, h2, h3, h4, h5⟩ := HL.out j hjk
              exact ⟨b, v, by rw [List.getElem?_append_left (by omega)]; exact h1, by rw [List.getElem?_append_left (by omega)]; exact h2, step_cell (cell_alloc h3) hg4 hg5 (by omega) (by omega), h4, h5⟩
            · obtain rfl : j = k := by omega
              exact ⟨wr.heap.size, _, by rw [List.getElem?_append_right (by omega), hl1, Nat.sub_self]; rfl, by rw [List.getElem?_append_right (by omega), hl2, Nat.sub_self]; rfl, step_cell (by simp [go_sem]) hg4 hg5 (by omega) (by omega), hgz, HN.out⟩
        case measure => simp [intOf]; omega
    · obtain rfl : k = d := by omega
      have HNO := Lib.hid (fun W => InnV.no HV.out W)
      have HALL0 := Lib.hid (show ∀ j, j < k → ∃ b v, wr.cell? ⟨w1.heap.size, j, none⟩ = some (.pointer (some ⟨b, 0, none⟩)) ∧ wr.cell? ⟨w2.heap.size, j, none⟩ = some v ∧ wr.cell? ⟨b, 4, none⟩ = some v ∧ NodeV v from fun j hj => by
        obtain ⟨b, v, h1, h2, h3, h4, h5⟩ := HL.out j hj
        exact ⟨b, v, by rw [hp.cellAt j (by omega)]; exact h1, by rw [hq.cellAt j (by omega)]; exact h2, h3, h5⟩)
      clear hp hq HL hlt
      go_wp2_with fail
      refine (zrpArithm_any (w2.heap.size + 1) v0 _ k wr HC.out HNO.out).mono ?_
      rintro e w6 ⟨⟨m, rfl, hm⟩, hb6⟩
      clear hm HC HN
      have hB6 := below_next hB hb6
      have HB6 := Lib.hid hb6
      clear hb6
      go_wp2_with fail
      refine (zrpArithm_any 0 v0 v0 0 w6 rfl HNO.out).mono ?_
      rintro e w7 ⟨⟨m2, rfl, hm2⟩, hb7⟩
      obtain rfl : m2 = false := by simpa using hm2
      have hB7 := below_next hB6 hb7
      have HB7 := Lib.hid (below_next HB6.out hb7)
      clear hb7 hm2
      go_wp2_with fail
      refine (same_any v0 HV.out.node w7).mono ?_
      rintro e w8 ⟨rfl, hw8⟩
      have hb8 : Below w7.heap.size w7 w8 := by obtain ⟨n, rfl⟩ := hw8; exact below_drewN _ _
      have hB8 := below_next hB7 hb8
      have HB8 := Lib.hid (below_next HB7.out hb8)
      have HALL := Lib.hid (show ∀ j, j < k → ∃ b v, w8.cell? ⟨w1.heap.size, j, none⟩ = some (.pointer (some ⟨b, 0, none⟩)) ∧ w8.cell? ⟨w2.heap.size, j, none⟩ = some v ∧ w8.cell? ⟨b, 4, none⟩ = some v ∧ NodeV v from fun j hj => by
        obtain ⟨b, v, h1, h2, h3, h5⟩ := HALL0.out j hj
        exact ⟨b, v, cell_below HB8.out h1, cell_below HB8.out h2, cell_below HB8.out h3, h5⟩)
      clear hb8 hw8 HALL0 HB7 HB6
      go_wp2_with fail
      go_loopw [21] (fun i wx => LRel k w8 i wx) (fun i _ => k - (intOf i).toNat)
      case atStart => exact ⟨0, 0, Nat.zero_le _, rfl, rfl⟩
      case round =>
        obtain ⟨j, n, hj, rfl, hwx⟩ := hrel
        by_cases hlt : j < k
        · obtain ⟨b, v, c1, c2, c3, hv⟩ := HALL.out j hlt
          have d1 : wr.cell? ⟨w1.heap.size, j, none⟩ = some (.pointer (some ⟨b, 0, none⟩)) := by rw [hwx]; exact c1
          have d2 : wr.cell? ⟨w2.heap.size, j, none⟩ = some v := by rw [hwx]; exact c2
          have d3 : wr.cell? ⟨b, 4, none⟩ = some v := by rw [hwx]; exact c3
          have HX := Lib.hid hwx
          have z1 := World.block_lt_of_cell? wr _ d1
          have z2 := World.block_lt_of_cell? wr _ d2
          have z3 := World.block_lt_of_cell? wr _ d3
          simp only at z1 z2 z3
          clear c1 c2 c3 hwx
          have q1 : (j : Int) < (k : Int) := by omega
          have q2 : (0 : Int) ≤ (j : Int) := by omega
          go_wp2_with fail
          go_quiet ((go_at_call 19; exact Calls.quiet_of (same_any _ hv _)))
          go_wp2
          go_roundw
          case rel => exact ⟨j + 1, _, by omega, by go_num, by rw [HX.out, World.drewN_drewN]⟩
          case measure => simp [intOf]; omega
        · obtain rfl : j = k := by omega
          have hBx : Below w.heap.size w wr := by rw [hwx]; exact drewN_of hB8
          clear hwx
          go_wp2
          go_ret
          exact ⟨rfl, hBx⟩

set_option maxRecDepth 100000 in
set_option maxHeartbeats 1000000 in
theorem x1 (a0 a1 : Int) (s : ByteArray) (w : World) (h : 1048576 < s.size) :
    Calls Try.prog 8 #[.int .i64 a0, .int .i64 a1, .string s] w fun e w' => e = .returned (.bool true) ∧ Below w.heap.size w w' := by
  go_enter Try.func8, Try.ntmps8
  go_wp2_with (go_at_call 31; go_in)
  go_ret
  exact ⟨rfl, by go_grown⟩
set_option maxRecDepth 100000 in
set_option maxHeartbeats 1000000 in
theorem x2 (a0 a1 : Int) (s : ByteArray) (w : World) (hs : s.size ≤ 1048576) (h : a0 < 0) :
    Calls Try.prog 8 #[.int .i64 a0, .int .i64 a1, .string s] w fun e w' => e = .returned (.bool true) ∧ Below w.heap.size w w' := by
  go_enter Try.func8, Try.ntmps8
  go_wp2_with (go_at_call 31; go_in)
  go_ret
  exact ⟨rfl, by go_grown⟩
set_option maxRecDepth 100000 in
set_option maxHeartbeats 1000000 in
theorem x3 (a0 a1 : Int) (s : ByteArray) (w : World) (hs : s.size ≤ 1048576) (h0 : ¬ a0 < 0) (h : 65536 < a0) :
    Calls Try.prog 8 #[.int .i64 a0, .int .i64 a1, .string s] w fun e w' => e = .returned (.bool true) ∧ Below w.heap.size w w' := by
  go_enter Try.func8, Try.ntmps8
  go_wp2_with (go_at_call 31; go_in)
  go_ret
  exact ⟨rfl, by go_grown⟩
set_option maxRecDepth 100000 in
set_option maxHeartbeats 1000000 in
theorem x4 (a0 a1 : Int) (s : ByteArray) (w : World) (hs : s.size ≤ 1048576) (h0 : ¬ a0 < 0) (h1 : ¬ 65536 < a0) (h : a1 < 0) :
    Calls Try.prog 8 #[.int .i64 a0, .int .i64 a1, .string s] w fun e w' => e = .returned (.bool true) ∧ Below w.heap.size w w' := by
  go_enter Try.func8, Try.ntmps8
  go_wp2_with (go_at_call 31; go_in)
  go_ret
  exact ⟨rfl, by go_grown⟩
set_option maxRecDepth 100000 in
set_option maxHeartbeats 1000000 in
theorem x5 (a0 a1 : Int) (s : ByteArray) (w : World) (hs : s.size ≤ 1048576) (h0 : ¬ a0 < 0) (h1 : ¬ 65536 < a0) (h2 : ¬ a1 < 0) (h : 3 < a1) :
    Calls Try.prog 8 #[.int .i64 a0, .int .i64 a1, .string s] w fun e w' => e = .returned (.bool true) ∧ Below w.heap.size w w' := by
  go_enter Try.func8, Try.ntmps8
  go_wp2_with (go_at_call 31; go_in)
  go_ret
  exact ⟨rfl, by go_grown⟩

theorem walk (a0 : Int) (a1 : Int) (a2 : ByteArray) (w : World) (w0 : (Lit.int .i64 a0).wf = true) (w1 : (Lit.int .i64 a1).wf = true) (w2 : a2.size ≤ maxLen) :
    Calls Try.prog 8 #[.int .i64 a0, .int .i64 a1, .string a2] w fun e w' => e = .returned (.bool true) ∧ Below w.heap.size w w' := by
  have b0 := bounds_i64 w0
  have b1 := bounds_i64 w1
  clear w0 w1
  by_cases k1 : 1048576 < a2.size
  · exact x1 a0 a1 a2 w k1
  by_cases k2 : a0 < 0
  · exact x2 a0 a1 a2 w (by omega) k2
  by_cases k3 : 65536 < a0
  · exact x3 a0 a1 a2 w (by omega) k2 k3
  by_cases k4 : a1 < 0
  · exact x4 a0 a1 a2 w (by omega) k2 k3 k4
  by_cases k5 : 3 < a1
  · exact x5 a0 a1 a2 w (by omega) k2 k3 k4 k5
  obtain ⟨d, rfl⟩ : ∃ d : Nat, a0 = d := ⟨a0.toNat, by omega⟩
  obtain ⟨k, rfl⟩ : ∃ k : Nat, a1 = k := ⟨a1.toNat, by omega⟩
  exact main d k a2 w (by omega) (by omega) (by omega)
end Go.Proofs.Ytoankohalfnemaa.fnRemoveParensArithmIdempotentLeavesTree
