/- The walk of FnMarkIndexExactSet: the Go text returns true. Conditions: none. -/
import Derived.Test.YtgeaokgcmhkoaaaMlaw
import Derived.OpenShut
namespace Go.Proofs.Ytgeaokgcmhkoaaa.fnMarkIndexExactSet
open Go.RowKit
set_option linter.unusedVariables false
set_option linter.unusedSimpArgs false

theorem Rep.pos {W : World} {d : Nat} {r : Bool} {lo hi : Nat} {x : Value} {vs : List Value} {ws : List Bool} (h : Rep W d r lo hi x vs ws) : 0 < vs.length := by
  cases d with
  | zero => exact h.elim
  | succ d => rcases h with ⟨b, e, hl, hb, ht, rfl, rfl⟩ | ⟨b, m, x1, x2, v1, v2, w1, w2, e, hl, hb, ht, c1, c2, r1, r2, rfl, rfl⟩ | ⟨b, x1, v1, w1, e, hl, hb, ht, c1, r1, rfl, rfl⟩ | ⟨b, x1, v1, w1, e, hl, hb, ht, c1, r1, rfl, rfl⟩ | ⟨b, x1, v1, w1, e, hl, hb, ht, r1, rfl, rfl⟩ <;> simp
theorem own_pos {w : World} {b : Nat} {E : TypeId} {v : Value} {n : Nat} {xs : List Value} (h : w.ownsRow b E 1 v n xs) (hn : 0 < n) : ∃ g cap, v = .slice (some ⟨g, 0, none⟩) n cap ∧ ∀ i u, xs[i]? = some u → w.cell? ⟨g, i, none⟩ = some u := by
  rcases h.2 with ⟨_, h⟩ | ⟨g, cap, cur, rfl, _⟩
  · omega
  · refine ⟨g, cap, rfl, fun i u hu => ?_⟩
    have hi : i < xs.length := (List.getElem?_eq_some_iff.1 hu).1
    rw [h.cellAt i (by rw [h.1] at hi; exact hi)]
    exact hu
theorem keyin_below {W W' : World} {lo hi : Nat} {y : Value} (h : KeyIn W lo hi y) (hb : Below W.heap.size W W') : KeyIn W' lo hi y := by
  obtain ⟨T, b, ⟨e, hp, S, C, hC⟩, h1, h2⟩ := h
  exact ⟨T, b, ⟨e, hp, S, C, by rw [hb.5 b (Array.getElem?_eq_some_iff.1 hC).1]; exact hC⟩, h1, h2⟩
set_option maxRecDepth 100000 in
set_option maxHeartbeats 8000000 in
theorem main (a0 : Option Addr) (n cap0 : Nat) (z0 : List Int) (w : World) (w0 : IsRow .u8 w a0 n cap0 z0) (hn : n ≤ 4096) :
    Calls Try.prog 4 #[.slice a0 n cap0] w fun e w' => e = .returned (.bool true) ∧ Below w.heap.size w w' := by
  have hZ : ∀ k, k < n → 0 ≤ z0.getD k 0 ∧ z0.getD k 0 ≤ 255 := fun k hk => by
    rcases w0 with ⟨_, h, _⟩ | ⟨x, _, hl, _, hzl, _, hw⟩
    · omega
    · have hkl : k < z0.length := by omega
      have e : z0.getD k 0 = z0[k] := by simp [List.getD, hkl]
      rw [e]
      exact bounds_u8 (hw _ (List.getElem_mem hkl))
  have HZ := Lib.hid hZ
  clear hZ
  go_enter Try.func4, Try.ntmps4
  go_wp2_with (go_at_call 11; go_in)
  refine (clu_b a0 n cap0 z0 _ w0 (by omega)).mono ?_
  rintro e w1 ⟨A, rfl, hA, hAb, hb1⟩
  have HA := Lib.hid hA
  have HAB := Lib.hid hAb
  have H1 := Lib.hid hb1
  clear hA hAb hb1 w0
  have hbl : Below w1.heap.size w1 (w1.alloc (.cells #[.slice A n n, .int .i64 0, .slice none 0 0, .slice none 0 0] 77)) := by go_grown
  have HB2 := Lib.hid (show BSt w1.heap.size A n (fun i => z0.getD i 0) 0 (.slice none 0 0) (.slice none 0 0) [] [] (w1.alloc (.cells #[.slice A n n, .int .i64 0, .slice none 0 0, .slice none 0 0] 77)) from
    ⟨⟨⟨by simp [go_sem], by simp [go_sem]⟩, by simp [go_sem], by simp [go_sem]⟩, ⟨by simp [go_sem], by simp [go_sem], by simp [go_sem]⟩, ⟨HA.out.below hbl, HAB.out⟩, ⟨World.ownsRow_nil _ _ _ _, World.ownsRow_nil _ _ _ _⟩, Nat.zero_le _, ⟨_, heap_new _ _ rfl⟩⟩)
  have HBL := Lib.hid hbl
  clear hbl
  go_wp2_with fail
  refine (bd_any w1.heap.size A n (fun i => z0.getD i 0) hn HZ.out n true 0 _ _ [] [] _ (by omega) (by simp; omega) rfl HB2.out).mono ?_
  rintro e w3 ⟨x, vs, us, d, pos, vn, vw, rfl, hB3, hR3, hN3, hL3, hp3, hl3, hu3⟩
  rw [List.nil_append, List.nil_append] at hB3
  have hpL := hB3.2.2.2.2.1
  have hvl : 0 < vs.length := Rep.pos hR3
  obtain ⟨gn, cn, rfl, hcn⟩ := own_pos hB3.2.2.2.1.1 hvl
  obtain ⟨gw, cw, rfl, hcw⟩ := own_pos hB3.2.2.2.1.2 (by omega)
  obtain ⟨Tx, bx, rfl⟩ := hR3.form
  have hvm : vs.length ≤ 8193 := by omega
  have HCN := Lib.hid hcn
  have HCW := Lib.hid (show ∀ i b, us[i]? = some b → w3.cell? ⟨gw, i, none⟩ = some (.bool b) from fun i b hb => hcw i (.bool b) (by rw [List.getElem?_map, hb]; rfl))
  have HC23 := Lib.hid (And.intro hB3.1.2.1 hB3.1.2.2)
  have HR3 := Lib.hid hR3
  have H3 := Lib.hid (below_next H1.out ((HBL.out.trans (hL3.mono (by simp)))))
  have HUL := Lib.hid hu3
  obtain ⟨n3, en3⟩ : ∃ n3, vs.length = n3 := ⟨_, rfl⟩
  rw [en3] at hvl hvm
  have HN3 := Lib.hid en3
  clear hB3 hR3 hN3 hL3 hl3 hcn hcw hu3 HB2 HA HAB HBL HZ H1
  simp only [en3] at HC23 ⊢
  have HC3 := Lib.hid (show w3.cell? ⟨w1.heap.size, 3, none⟩ = some (.slice (some ⟨gw, 0, none⟩) n3 cw) by have := HC23.out.2; rw [HUL.out, HN3.out] at this; exact this)
  clear en3
  go_wp2_with fail
  refine (news_any _).mono ?_
  rintro e w4 ⟨rfl, hS, hb4, hz4⟩
  have HSM := Lib.hid (show SM w4 (w3.heap.size + 1) w3.heap.size false [] from ⟨hS.1, hS.2.1, hS.2.2.2.2, ⟨#[], 0, hS.2.2.2.1, rfl, by simp⟩⟩)
  have H4 := Lib.hid hb4
  clear hS hb4 hz4
  go_wp2_with fail
  refine (zmi_any _ _ _ _ _ _ (mi_any (w3.heap.size + 1) w3.heap.size false d _ _ _ vs us [] w4 (Rep.keep (l := 0) (NK.below H4.out) d true _ _ _ _ vs us (Nat.zero_le _) (Nat.le_refl _) HR3.out) HSM.out (by simp))).mono ?_
  rintro e w5 ⟨rfl, hS5, hg5⟩
  rw [List.nil_append] at hS5
  have HS5 := Lib.hid hS5
  have HSO := Lib.hid (Rep.sorted HR3.out)
  have far : ∀ b o u, w3.cell? ⟨b, o, none⟩ = some u → w5.cell? ⟨b, o, none⟩ = some u := fun b o u hc => by
    have hz := World.block_lt_of_cell? _ _ hc
    simp only at hz
    exact gcell hg5 (cell_below H4.out hc) (by omega)
  have HCN5 := Lib.hid (show ∀ i u, vs[i]? = some u → w5.cell? ⟨gn, i, none⟩ = some u from fun i u h => far _ _ _ (HCN.out i u h))
  have HCW5 := Lib.hid (show ∀ i b, us[i]? = some b → w5.cell? ⟨gw, i, none⟩ = some (.bool b) from fun i b h => far _ _ _ (HCW.out i b h))
  have c2 := far _ _ _ HC23.out.1
  have c3 := far _ _ _ HC3.out
  have HKY := Lib.hid (show ∀ y ∈ vs, KeyIn w5 (w1.alloc (.cells #[.slice A n n, .int .i64 0, .slice none 0 0, .slice none 0 0] 77)).heap.size w3.heap.size y from fun y hy => keep_key HSM.out.2.2.2 hg5 (keyin_below (Rep.keys HR3.out y hy) H4.out))
  have HLN := Lib.hid (show vs.length = us.length from HUL.out.symm)
  have H5 := Lib.hid (show Below w.heap.size w w5 from (below_next H3.out H4.out).grown hg5 (Nat.le_trans H3.out.size H4.out.size) (fun k e => by cases e; exact H3.out.size))
  have HUN := Lib.hid (show us.length = n3 by rw [HUL.out]; exact HN3.out)
  have HCC := Lib.hid (And.intro c2 c3)
  have zB : w1.heap.size < w5.heap.size := by have := World.block_lt_of_cell? _ _ c2; simpa using this
  clear hS5 hg5 far HSM H4 H3 HCN HCW HC23 HC3 HR3
  go_wp2_with fail
  go_loopw [6] (fun i wr => ∃ k : Nat, k ≤ n3 ∧ i = .int .i64 k ∧ Below w5.heap.size w5 wr) (fun i _ => n3 - (intOf i).toNat)
  case atStart => exact ⟨0, Nat.zero_le _, rfl, Below.refl _ _⟩
  case round =>
    clear c2 c3
    obtain ⟨k, hk, rfl, hbw⟩ := hrel
    have c2 := cell_below hbw HCC.out.1
    have c3 := cell_below hbw HCC.out.2
    have zB2 : w1.heap.size < wr.heap.size := Nat.lt_of_lt_of_le zB hbw.size
    by_cases hlt : k < n3
    · obtain ⟨y, hy⟩ : ∃ y, vs[k]? = some y := ⟨_, List.getElem?_eq_getElem (by have := HN3.out; omega)⟩
      obtain ⟨b, hb⟩ : ∃ b, us[k]? = some b := ⟨_, List.getElem?_eq_getElem (by have := HUN.out; omega)⟩
      have cn := cell_below hbw (HCN5.out k y hy)
      have cw := cell_below hbw (HCW5.out k b hb)
      have hym : y ∈ vs := List.mem_of_getElem? hy
      have HZK := Lib.hid (show ∀ U, Below w5.heap.size w5 U → Calls Try.prog 15 #[.pointer (some ⟨w3.heap.size + 1, 0, none⟩), y] U fun e w' => e = .returned (.bool b) ∧ w' = U from fun U hU =>
        zk_is _ _ false b (keptL vs us) y U _ _ vs (HS5.out.below hU) HSO.out (fun z hz => keyin_below (HKY.out z hz) hU) hym (fun z hz => keptL_sub _ _ _ hz) (kept_flag vs us HLN.out HSO.out k y b hy hb))
      have hf : ∃ T a, y = .iface T (.pointer (some ⟨a, 0, none⟩)) := by obtain ⟨T, a, kv, _⟩ := HKY.out y hym; exact ⟨T, a, kv.1⟩
      obtain ⟨T, a, rfl⟩ := hf
      have HBW := Lib.hid hbw
      have hbb : (b != b) = false := by simp
      clear hy hb hym hbw
      go_wp2_with fail
      go_quiet ((go_at_call 15; exact Calls.quiet_of_same (HZK.out _ (below_next HBW.out (below_drewN _ _)))))
      go_wp2_with fail
      go_roundw
      case rel => exact ⟨k + 1, by omega, by go_num, drewN_of HBW.out⟩
      case measure => simp [intOf]; omega
    · obtain rfl : k = n3 := by omega
      clear hlt
      have HBW := Lib.hid hbw
      have HF := Lib.hid (below_next H5.out hbw)
      have HCT := Lib.hid (show cnt us = (keptL vs us).length from (cnt_kept vs us HLN.out).symm)
      obtain ⟨R, eR⟩ : ∃ R, (keptL vs us).length = R := ⟨_, rfl⟩
      have HR := Lib.hid eR
      have hq : ((R : Int) == (R : Int)) = true := by simp
      clear hbw eR
      go_wp2_with (first | (go_at_call 16; refine (zkc_any _ _ _ _ _ (HS5.out.below HBW.out)).mono ?_; rintro e w' ⟨rfl, rfl⟩; rw [HR.out]) | (go_at_call 17; refine (wcn_any _ gw k cw us R _ (by omega) HUN.out (Lib.hid (HCT.out.trans HR.out)) c3 (fun i b hb => cell_below HBW.out (HCW5.out i b hb))).mono ?_; rintro e w' ⟨rfl, rfl⟩) | (go_at_call 10; refine (zm_sm _ _ _ _ _ (HS5.out.below HBW.out)).mono ?_; rintro e w' ⟨rfl, rfl⟩))
      go_ret
      exact ⟨rfl, HF.out⟩
set_option maxRecDepth 100000 in
set_option maxHeartbeats 4000000 in
theorem x1 (a0 : Option Addr) (n cap0 : Nat) (w : World) (h : 4096 < n) (hn : n ≤ maxLen) : Calls Try.prog 4 #[.slice a0 n cap0] w fun e w' => e = .returned (.bool true) ∧ Below w.heap.size w w' := by
  unfold maxLen at hn
  by_cases h1 : 1048576 < n
  · have k : (1048576 : Int) < (n : Int) := by omega
    go_enter Try.func4, Try.ntmps4
    go_wp2_with (go_at_call 11; go_in)
    go_ret
    exact ⟨rfl, by go_grown⟩
  have k1 : (n : Int) ≤ (1048576 : Int) := by omega
  have k : (4096 : Int) < (n : Int) := by omega
  go_enter Try.func4, Try.ntmps4
  go_wp2_with (go_at_call 11; go_in)
  go_ret
  exact ⟨rfl, by go_grown⟩
theorem walk (a0 : Option Addr) (len0 cap0 : Nat) (z0 : List Int) (w : World) (w0 : IsRow .u8 w a0 len0 cap0 z0) :
    Calls Try.prog 4 #[.slice a0 len0 cap0] w fun e w' => e = .returned (.bool true) ∧ Below w.heap.size w w' := by
  have hn : len0 ≤ maxLen := by
    rcases w0 with ⟨_, h, _⟩ | ⟨x, _, hl, hm, _⟩
    · rw [h]; exact Nat.zero_le _
    · exact Nat.le_trans hl hm
  by_cases h : 4096 < len0
  · exact x1 a0 len0 cap0 w h hn
  · exact main a0 len0 cap0 z0 w w0 (by omega)
end Go.Proofs.Ytgeaokgcmhkoaaa.fnMarkIndexExactSet
