/- The walk of FnDeclClausePosNotAfterEnd: the Go text returns true. Conditions: none. -/
import Derived.Test.YthmbphgpkpjopaaDeclBuild
namespace Go.Proofs.Ythmbphgpkpjopaa.fnDeclClausePosNotAfterEnd
open Go.RowKit
set_option linter.unusedVariables false

set_option maxHeartbeats 400000 in
theorem dcPos_litPos (b c : Nat) (o lc : Int) (W : World) (h : W.cell? ⟨b, 0, none⟩ = some (.pointer (some ⟨c, 0, none⟩))) (hb : b < W.heap.size) (hX : PosIs Try.prog 25 c o lc W) : PosIs Try.prog 15 b o lc W := by
  intro w hw
  have h1 : w.cell? ⟨b, 0, none⟩ = some (.pointer (some ⟨c, 0, none⟩)) := by rw [hw.cell (p := ⟨b, 0, none⟩) hb]; exact h
  have hb1 : b < w.heap.size := Nat.lt_of_lt_of_le hb hw.size
  have HX := Lib.hid hX
  have HW := Lib.hid hw
  clear h hb hX hw
  go_enter Try.func15, Try.ntmps15
  go_wp2_with fail
  refine (HX.out _ (below_next HW.out (by go_grown))).mono ?_
  rintro e w1 ⟨rfl, hb1⟩
  obtain ⟨k0, k1, f0, f1, hB⟩ := slot_after hb1
  clear hb1
  go_wp2_with fail
  exact bodyPost_ret (v := .agg #[.int .u32 o, .int .u32 lc]) (by simp [results, Try.results15, go_sem, k0, k1]) rfl ⟨rfl, by go_grown⟩
set_option maxHeartbeats 1000000 in
theorem dcEnd_none {d v : Nat} {o lc : Int} {w : World} {A : Option Addr} {c : Nat} (h0 : w.cell? ⟨d, 0, none⟩ = some (.pointer (some ⟨v, 0, none⟩))) (h1 : w.cell? ⟨d, 1, none⟩ = some (.slice A 0 c)) (hX : PosIs Try.prog 22 v o lc w) :
    Calls Try.prog 16 #[.pointer (some ⟨d, 0, none⟩)] w fun e w' => e = .returned (.agg #[.int .u32 o, .int .u32 lc]) ∧ Below w.heap.size w w' := by
  have z0 := lt_cell h0
  have HX := Lib.hid hX
  clear hX
  go_enter Try.func16, Try.ntmps16
  go_wp2_with fail
  refine (HX.out _ (by go_grown)).mono ?_
  rintro e w1 ⟨rfl, hb1⟩
  obtain ⟨k0, k1, f0, f1, hB⟩ := slot_after hb1
  clear hb1
  go_wp2_with fail
  exact bodyPost_ret (v := .agg #[.int .u32 o, .int .u32 lc]) (by simp [results, Try.results16, go_sem, k0, k1]) rfl ⟨rfl, by go_grown⟩
set_option maxHeartbeats 1000000 in
theorem dcEnd_some {x g b n cap : Nat} {o lc : Int} {w : World} (hn : 0 < n) (hn2 : n ≤ 1048576) (hx : w.cell? ⟨x, 1, none⟩ = some (.slice (some ⟨g, 0, none⟩) n cap)) (hg : w.cell? ⟨g, n - 1, none⟩ = some (.pointer (some ⟨b, 0, none⟩))) (hX : PosIs Try.prog 26 b o lc w) :
    Calls Try.prog 16 #[.pointer (some ⟨x, 0, none⟩)] w fun e w' => e = .returned (.agg #[.int .u32 o, .int .u32 lc]) ∧ Below w.heap.size w w' := by
  have hxz := lt_cell hx
  have hgz := lt_cell hg
  have v8 : (0 : Int) < (n : Int) := by omega
  have HX := Lib.hid hX
  have H1 := Lib.hid hx
  have H2 := Lib.hid hg
  clear hX
  go_enter Try.func16, Try.ntmps16
  go_wp2_with fail
  refine wp_gen (fun U => Below w.heap.size w U ∧ U.cell? ⟨w.heap.size, 0, none⟩ = some (.int .u32 0) ∧ U.cell? ⟨w.heap.size, 1, none⟩ = some (.int .u32 0) ∧ U.frozen? ⟨w.heap.size, 0, none⟩ = false ∧ U.frozen? ⟨w.heap.size, 1, none⟩ = false ∧ w.heap.size < U.heap.size) ⟨by go_grown, by simp [go_sem], by simp [go_sem], by simp [go_sem], by simp [go_sem], by simp⟩ ?_
  rintro U ⟨hU, k0, k1, f0, f1, hz⟩
  clear hx hg v8
  have v1 := IntWalk.i64_in ((n : Int) - 1) (by omega)
  have v2 : (0 : Int) ≤ (n : Int) - 1 := by omega
  have v3 : ((n : Int) - 1).toNat = n - 1 := by omega
  have v4 : (n : Int) - 1 < (n : Int) := by omega
  have v5 : n - 1 < n := by omega
  have v6 : 1 ≤ n := hn
  have v7 : (1 : Int) ≤ (n : Int) := by omega
  go_region_held3 (fun U9 => Below w.heap.size w U9 ∧ U9.cell? ⟨x, 1, none⟩ = some (.slice (some ⟨g, 0, none⟩) n cap) ∧ U9.cell? ⟨g, n - 1, none⟩ = some (.pointer (some ⟨b, 0, none⟩)))
    (first | exact keep2 (by go_grown) hxz hgz H1.out H2.out)
    (first | (go_at_call 26; refine (HX.out _ (And.left (by assumption))).mono ?_; rintro e w1 ⟨rfl, hb4⟩; have hB1 := below_next (And.left (by assumption)) hb4; have k0 := bget hb4 hz k0; have k1 := bget hb4 hz k1; have f0 := bfroz hb4 hz f0; have f1 := bfroz hb4 hz f1; clear hb4))
  go_wp2_with fail
  exact bodyPost_ret (v := .agg #[.int .u32 o, .int .u32 lc]) (by simp [results, Try.results16, go_sem, k0, k1]) rfl ⟨rfl, by go_grown⟩
/-- the clause ends at an offset of at least o2 -/
theorem dc_end {d v g n : Nat} {o2 o3 : Int} {w : World} (hn : n ≤ 65536) (ho : 0 ≤ o2 ∧ o2 ≤ 4294967284) (hl : 0 ≤ o3 ∧ o3 ≤ 4294967295) (h0 : w.cell? ⟨d, 0, none⟩ = some (.pointer (some ⟨v, 0, none⟩))) (h1 : w.cell? ⟨d, 1, none⟩ = some (.slice (some ⟨g, 0, none⟩) n n)) (h2 : w.cell? ⟨v, 2, none⟩ = some (.int .u32 o2)) (h3 : w.cell? ⟨v, 3, none⟩ = some (.int .u32 o3)) (hE : 0 < n → ∃ x, w.cell? ⟨g, n - 1, none⟩ = some x ∧ EndGe o2 0 x w) :
    Calls Try.prog 16 #[.pointer (some ⟨d, 0, none⟩)] w fun e w' => ∃ o lc, e = .returned (.agg #[.int .u32 o, .int .u32 lc]) ∧ (o2 ≤ o ∧ 0 ≤ o ∧ o ≤ 4294967284) ∧ (0 ≤ lc ∧ lc ≤ 4294967295) ∧ Below w.heap.size w w' := by
  by_cases h : 0 < n
  · obtain ⟨x, hx, b, o, lc, rfl, hp, b1, b2, b3, b4, b5⟩ := hE h
    exact (dcEnd_some h (by omega) h1 hx hp.is).mono fun _ _ ⟨he, hb⟩ => ⟨o, lc, he, ⟨b1, b2, b3⟩, ⟨b4, b5⟩, hb⟩
  · obtain rfl : n = 0 := by omega
    exact (dcEnd_none h0 h1 (litEnd_is v o2 o3 w h2 h3 (lt_cell h2))).mono fun _ _ ⟨he, hb⟩ => ⟨o2, o3, he, ⟨by omega, by omega, by omega⟩, hl, hb⟩
def OK (o2 : Int) (f3 f4 f5 f6 : Nat → Int) (k : Nat) : Prop := ∀ i, i < k → (o2 ≤ f3 i ∧ 0 ≤ f3 i ∧ f3 i ≤ 4294967284) ∧ (1 ≤ f4 i ∧ f4 i ≤ 4294967295) ∧ (o2 ≤ f5 i ∧ 0 ≤ f5 i ∧ f5 i ≤ 4294967284) ∧ (1 ≤ f6 i ∧ f6 i ≤ 4294967295)
theorem OK.step {o2 : Int} {f3 f4 f5 f6 : Nat → Int} {k : Nat} (h : OK o2 f3 f4 f5 f6 k) (h2 : (o2 ≤ f3 k ∧ 0 ≤ f3 k ∧ f3 k ≤ 4294967284) ∧ (1 ≤ f4 k ∧ f4 k ≤ 4294967295) ∧ (o2 ≤ f5 k ∧ 0 ≤ f5 k ∧ f5 k ≤ 4294967284) ∧ (1 ≤ f6 k ∧ f6 k ≤ 4294967295)) : OK o2 f3 f4 f5 f6 (k + 1) := fun i hi => by
  by_cases e : i < k
  · exact h i e
  · obtain rfl : i = k := by omega
    exact h2
theorem keep4 {V U : World} {B C : Nat} {x y z v : Value} (h0 : V.cell? ⟨B, 0, none⟩ = some x) (h1 : V.cell? ⟨B, 1, none⟩ = some y) (h2 : V.cell? ⟨C, 0, none⟩ = some z) (h3 : V.cell? ⟨C, 1, none⟩ = some v) (hb : Below V.heap.size V U) :
    Below V.heap.size V U ∧ U.cell? ⟨B, 0, none⟩ = some x ∧ U.cell? ⟨B, 1, none⟩ = some y ∧ U.cell? ⟨C, 0, none⟩ = some z ∧ U.cell? ⟨C, 1, none⟩ = some v := ⟨hb, cell_later hb h0, cell_later hb h1, cell_later hb h2, cell_later hb h3⟩
set_option maxRecDepth 100000 in
set_option maxHeartbeats 4000000 in
theorem main (o0 o1 o2 o3 : Int) (a0 a1 a2 a3 a4 a5 a6 : Option Addr) (n c0 c1 c2 c3 c4 c5 c6 : Nat) (f0 f1 f2 f3 f4 f5 f6 : Nat → Int) (w : World) (hn : n ≤ 65536) (i0 : IntIn .u8 w a0 n f0) (i1 : IntIn .u32 w a1 n f1) (i2 : IntIn .u32 w a2 n f2) (i3 : IntIn .u32 w a3 n f3) (i4 : IntIn .u32 w a4 n f4) (i5 : IntIn .u32 w a5 n f5) (i6 : IntIn .u32 w a6 n f6)
    (hk : ∀ i, i < n → 0 ≤ f0 i ∧ f0 i ≤ 255) (k3 : ∀ i, i < n → 0 ≤ f3 i ∧ f3 i ≤ 4294967295) (k4 : ∀ i, i < n → 0 ≤ f4 i ∧ f4 i ≤ 4294967295) (k5 : ∀ i, i < n → 0 ≤ f5 i ∧ f5 i ≤ 4294967295) (k6 : ∀ i, i < n → 0 ≤ f6 i ∧ f6 i ≤ 4294967295) (b0 : 0 ≤ o0 ∧ o0 ≤ 4294967295) (b1 : 0 ≤ o1 ∧ o1 ≤ 4294967295) (b2 : 0 ≤ o2 ∧ o2 ≤ 4294967295) (b3 : 0 ≤ o3 ∧ o3 ≤ 4294967295) :
    Calls Try.prog 4 #[.int .u32 o0, .int .u32 o1, .int .u32 o2, .int .u32 o3, .slice a0 n c0, .slice a1 n c1, .slice a2 n c2, .slice a3 n c3, .slice a4 n c4, .slice a5 n c5, .slice a6 n c6] w fun e w' => e = .returned (.bool true) ∧ Below w.heap.size w w' := by
  have I0 := Lib.hid i0
  have I1 := Lib.hid i1
  have I2 := Lib.hid i2
  have I3 := Lib.hid i3
  have I4 := Lib.hid i4
  have I5 := Lib.hid i5
  have I6 := Lib.hid i6
  have HK := Lib.hid hk
  have K3 := Lib.hid k3
  have K4 := Lib.hid k4
  have K5 := Lib.hid k5
  have K6 := Lib.hid k6
  clear i0 i1 i2 i3 i4 i5 i6 hk k3 k4 k5 k6
  go_enter Try.func4, Try.ntmps4
  go_wp2_with fail
  refine (zb_any _ _ _ _ _ _ _ _ _ _ _ _ _ _ _ _ _ _ _ _ _ _ _ _ _ _).mono ?_
  rintro e w1 ⟨b, rfl, hb1⟩
  cases b
  · go_wp2_with fail
    go_ret
    exact ⟨rfl, hb1⟩
  have H1 := Lib.hid hb1
  clear hb1
  go_wp2_with fail
  refine (fits_eq _ _ _ _ _ _ _ _ _ _ _ _ _ _ _ _ _ _ _ f1 f2 f3 f4 f5 f6 _ hn (I1.out.below H1.out) (I2.out.below H1.out) (I3.out.below H1.out) (I4.out.below H1.out) (I5.out.below H1.out) (I6.out.below H1.out)).mono ?_
  rintro e w2 ⟨b, rfl, hb2⟩
  have H2 := Lib.hid (below_next H1.out hb2)
  clear hb2 H1
  cases b
  · go_wp2_with fail
    go_ret
    exact ⟨rfl, H2.out⟩
  by_cases g1 : 4294967284 < o0
  · go_wp2_with fail
    go_ret
    exact ⟨rfl, H2.out⟩
  by_cases g2 : o1 = 0
  · subst g2
    go_wp2_with fail
    go_ret
    exact ⟨rfl, H2.out⟩
  have q2 : ((o1 : Int) == 0) = false := by simp [g2]
  by_cases g3 : 4294967284 < o2
  · go_wp2_with fail
    go_ret
    exact ⟨rfl, H2.out⟩
  by_cases g4 : o3 = 0
  · subst g4
    go_wp2_with fail
    go_ret
    exact ⟨rfl, H2.out⟩
  have q4 : ((o3 : Int) == 0) = false := by simp [g4]
  by_cases g5 : o2 < o0
  · go_wp2_with fail
    go_ret
    exact ⟨rfl, H2.out⟩
  go_wp2_with fail
  go_loop [23] (fun i => ∃ k : Nat, k ≤ n ∧ i = .int .i64 k ∧ Hid (OK o2 f3 f4 f5 f6 k)) (fun i => n - (intOf i).toNat)
  case atStart => exact ⟨0, Nat.zero_le _, rfl, Lib.hid (fun i hi => absurd hi (by omega))⟩
  case round =>
    obtain ⟨k, hk, rfl, HOK⟩ := hrel
    by_cases hlt : k < n
    · obtain ⟨x3, rfl, e3⟩ := I3.out k hlt
      obtain ⟨x4, rfl, e4⟩ := I4.out k hlt
      obtain ⟨x5, rfl, e5⟩ := I5.out k hlt
      obtain ⟨x6, rfl, e6⟩ := I6.out k hlt
      have e3 := cell_later H2.out e3
      have e4 := cell_later H2.out e4
      have e5 := cell_later H2.out e5
      have e6 := cell_later H2.out e6
      have r3 := K3.out k hlt
      have r4 := K4.out k hlt
      have r5 := K5.out k hlt
      have r6 := K6.out k hlt
      by_cases t1 : 4294967284 < f3 k
      · go_wp2_with fail
        go_ret
        exact ⟨rfl, H2.out⟩
      by_cases t2 : f4 k = 0
      · have u2 : ((f4 k : Int) == 0) = true := by simp [t2]
        go_wp2_with fail
        go_ret
        exact ⟨rfl, H2.out⟩
      have u2 : ((f4 k : Int) == 0) = false := by simp [t2]
      by_cases t3 : f3 k < o2
      · go_wp2_with fail
        go_ret
        exact ⟨rfl, H2.out⟩
      by_cases t4 : 4294967284 < f5 k
      · go_wp2_with fail
        go_ret
        exact ⟨rfl, H2.out⟩
      by_cases t5 : f6 k = 0
      · have u5 : ((f6 k : Int) == 0) = true := by simp [t5]
        go_wp2_with fail
        go_ret
        exact ⟨rfl, H2.out⟩
      have u5 : ((f6 k : Int) == 0) = false := by simp [t5]
      by_cases t6 : f5 k < o2
      · go_wp2_with fail
        go_ret
        exact ⟨rfl, H2.out⟩
      go_wp2_with fail
      go_round
      case rel => exact ⟨k + 1, by omega, by go_num, Lib.hid (HOK.out.step ⟨by omega, by omega, by omega, by omega⟩)⟩
      case measure => simp [intOf]; omega
    · obtain rfl : k = n := by omega
      go_wp2_with fail
      refine (bd_any _ _ _ _ _ _ _ _ _ _ _ _ _ _ _ _ _ _ _ f0 f1 f2 f3 f4 f5 f6 _ hn (I0.out.below H2.out) (I1.out.below H2.out) (I2.out.below H2.out) (I3.out.below H2.out) (I4.out.below H2.out) (I5.out.below H2.out) (I6.out.below H2.out) HK.out HOK.out).mono ?_
      rintro e w3 ⟨d, v, g, rfl, d0, d1, v0, v1, v2, v3, hE, hb3⟩
      have H3 := Lib.hid (below_next H2.out hb3)
      have DD := Lib.hid (And.intro d0 (And.intro d1 (And.intro v2 (And.intro v3 hE))))
      have PP := Lib.hid (dcPos_litPos d v o0 o1 w3 d0 (lt_cell d0) (litPos_is v o0 o1 w3 v0 v1 (lt_cell v0)))
      clear d0 d1 v0 v1 v2 v3 hE hb3 H2 I0 I1 I2 I3 I4 I5 I6
      go_wp2_with fail
      refine (PP.out.now).mono ?_
      rintro e w4 ⟨rfl, hb4⟩
      have H4 := Lib.hid hb4
      clear hb4 PP
      go_wp2_with fail
      have hal : Below w3.heap.size w3 (w4.alloc (.cells #[.int .u32 o0, .int .u32 o1] 25)) := H4.out.alloc H4.out.size _
      obtain ⟨d0, d1, v2, v3, hE⟩ := DD.out
      refine (dc_end (d := d) (v := v) (g := g) (n := k) (o2 := o2) (o3 := o3) hn (by omega) (by omega) (cell_later hal d0) (cell_later hal d1) (cell_later hal v2) (cell_later hal v3) (fun h => ?_)).mono ?_
      · obtain ⟨x, hx, b, o, lc, e, hp, hb⟩ := hE h
        exact ⟨x, cell_later hal hx, b, o, lc, e, hp.keep (Keeps.of_below hal), hb⟩
      rintro e w5 ⟨eo, el, rfl, be, bl, hb5⟩
      have p0 : w5.cell? ⟨w4.heap.size, 0, none⟩ = some (.int .u32 o0) := cell_later hb5 (by simp [go_sem])
      have p1 : w5.cell? ⟨w4.heap.size, 1, none⟩ = some (.int .u32 o1) := cell_later hb5 (by simp [go_sem])
      have y0 := lt_cell p0
      have H5 := Lib.hid (below_next (below_next H3.out hal) hb5)
      clear hb5 hal d0 d1 v2 v3 hE DD H4 H3
      go_wp2_with fail
      refine (after_is _ _ _ _ false _ (by omega) (by omega) (by simp; omega)).mono ?_
      rintro e w6 ⟨rfl, hb6⟩
      have P0 := Lib.hid (cell_later hb6 (cell_alloc (o := .cells #[.int .u32 eo, .int .u32 el] 25) p0))
      have P1 := Lib.hid (cell_later hb6 (cell_alloc (o := .cells #[.int .u32 eo, .int .u32 el] 25) p1))
      have s0 : w6.cell? ⟨w5.heap.size, 0, none⟩ = some (.int .u32 eo) := cell_later hb6 (by simp [go_sem])
      have s1 : w6.cell? ⟨w5.heap.size, 1, none⟩ = some (.int .u32 el) := cell_later hb6 (by simp [go_sem])
      have S0 := Lib.hid s0
      have S1 := Lib.hid s1
      have H6 := Lib.hid (below_next (H5.out.alloc H5.out.size (.cells #[.int .u32 eo, .int .u32 el] 25)) hb6)
      clear hb6 H5 p0 p1 s0 s1
      have vc := IntWalk.u64_in o2 (by omega)
      have d1 : decide (o2 ≤ eo) = true := by simp; omega
      have d2 : decide (o0 ≤ eo) = true := by simp; omega
      go_wp2_with fail
      go_region_held3 (fun U => Below w6.heap.size w6 U ∧ U.cell? ⟨w4.heap.size, 0, none⟩ = some (.int .u32 o0) ∧ U.cell? ⟨w4.heap.size, 1, none⟩ = some (.int .u32 o1) ∧ U.cell? ⟨w5.heap.size, 0, none⟩ = some (.int .u32 eo) ∧ U.cell? ⟨w5.heap.size, 1, none⟩ = some (.int .u32 el))
        (first | (refine keep4 P0.out P1.out S0.out S1.out ?_; go_grown; done))
        (first | (go_at_call 9; refine (offset_is _ _ _ (by omega)).mono ?_; rintro e wN ⟨rfl, hbN⟩; have hBN := below_next (And.left (by assumption)) hbN; clear hbN))
      go_wp2_with fail
      go_ret
      exact ⟨rfl, below_next H6.out hBN⟩
set_option maxRecDepth 100000 in
set_option maxHeartbeats 4000000 in
theorem wide (o0 o1 o2 o3 : Int) (a0 a1 a2 a3 a4 a5 a6 : Option Addr) (n0 n1 n2 n3 n4 n5 n6 c0 c1 c2 c3 c4 c5 c6 : Nat) (w : World) (h : (65536 < n0) ∨ (n0 ≤ 65536 ∧ 65536 < n1) ∨ (n0 ≤ 65536 ∧ n1 ≤ 65536 ∧ 65536 < n2) ∨ (n0 ≤ 65536 ∧ n1 ≤ 65536 ∧ n2 ≤ 65536 ∧ 65536 < n3) ∨ (n0 ≤ 65536 ∧ n1 ≤ 65536 ∧ n2 ≤ 65536 ∧ n3 ≤ 65536 ∧ 65536 < n4) ∨ (n0 ≤ 65536 ∧ n1 ≤ 65536 ∧ n2 ≤ 65536 ∧ n3 ≤ 65536 ∧ n4 ≤ 65536 ∧ 65536 < n5) ∨ (n0 ≤ 65536 ∧ n1 ≤ 65536 ∧ n2 ≤ 65536 ∧ n3 ≤ 65536 ∧ n4 ≤ 65536 ∧ n5 ≤ 65536 ∧ 65536 < n6)) :
    Calls Try.prog 4 #[.int .u32 o0, .int .u32 o1, .int .u32 o2, .int .u32 o3, .slice a0 n0 c0, .slice a1 n1 c1, .slice a2 n2 c2, .slice a3 n3 c3, .slice a4 n4 c4, .slice a5 n5 c5, .slice a6 n6 c6] w fun e w' => e = .returned (.bool true) ∧ Below w.heap.size w w' := by
  rcases h with h | ⟨t0, h⟩ | ⟨t0, t1, h⟩ | ⟨t0, t1, t2, h⟩ | ⟨t0, t1, t2, t3, h⟩ | ⟨t0, t1, t2, t3, t4, h⟩ | ⟨t0, t1, t2, t3, t4, t5, h⟩
  all_goals
    go_enter Try.func4, Try.ntmps4
    go_wp2_with fail
    refine (zb_any _ _ _ _ _ _ _ _ _ _ _ _ _ _ _ _ _ _ _ _ _ _ _ _ _ _).mono ?_
    rintro e w1 ⟨b, rfl, hb1⟩
    cases b
    all_goals
      go_wp2_with fail
      go_ret
      exact ⟨rfl, hb1⟩
set_option maxRecDepth 100000 in
set_option maxHeartbeats 4000000 in
theorem uneven (o0 o1 o2 o3 : Int) (a0 a1 a2 a3 a4 a5 a6 : Option Addr) (n0 n1 n2 n3 n4 n5 n6 c0 c1 c2 c3 c4 c5 c6 : Nat) (w : World) (l0 : n0 ≤ 65536) (l1 : n1 ≤ 65536) (l2 : n2 ≤ 65536) (l3 : n3 ≤ 65536) (l4 : n4 ≤ 65536) (l5 : n5 ≤ 65536) (l6 : n6 ≤ 65536) (h : (n1 ≠ n0) ∨ (n0 = n1 ∧ n2 ≠ n0) ∨ (n0 = n1 ∧ n0 = n2 ∧ n3 ≠ n0) ∨ (n0 = n1 ∧ n0 = n2 ∧ n0 = n3 ∧ n4 ≠ n0) ∨ (n0 = n1 ∧ n0 = n2 ∧ n0 = n3 ∧ n0 = n4 ∧ n5 ≠ n0) ∨ (n0 = n1 ∧ n0 = n2 ∧ n0 = n3 ∧ n0 = n4 ∧ n0 = n5 ∧ n6 ≠ n0)) :
    Calls Try.prog 4 #[.int .u32 o0, .int .u32 o1, .int .u32 o2, .int .u32 o3, .slice a0 n0 c0, .slice a1 n1 c1, .slice a2 n2 c2, .slice a3 n3 c3, .slice a4 n4 c4, .slice a5 n5 c5, .slice a6 n6 c6] w fun e w' => e = .returned (.bool true) ∧ Below w.heap.size w w' := by
  have HH := Lib.hid h
  clear h
  go_enter Try.func4, Try.ntmps4
  go_wp2_with fail
  refine (zb_any _ _ _ _ _ _ _ _ _ _ _ _ _ _ _ _ _ _ _ _ _ _ _ _ _ _).mono ?_
  rintro e w1 ⟨b, rfl, hb1⟩
  cases b
  · go_wp2_with fail
    go_ret
    exact ⟨rfl, hb1⟩
  go_wp2_with fail
  refine (fits_ne _ _ _ _ _ _ _ _ _ _ _ _ _ _ _ _ _ _ _ _ _ _ _ _ _ _ l0 l1 l2 l3 l4 l5 l6 HH.out).mono ?_
  rintro e w2 ⟨rfl, hb2⟩
  go_wp2_with fail
  go_ret
  exact ⟨rfl, below_next hb1 hb2⟩

theorem walk (a0 : Int) (a1 : Int) (a2 : Int) (a3 : Int) (a4 : Option Addr) (len4 cap4 : Nat) (z4 : List Int) (a5 : Option Addr) (len5 cap5 : Nat) (z5 : List Int) (a6 : Option Addr) (len6 cap6 : Nat) (z6 : List Int) (a7 : Option Addr) (len7 cap7 : Nat) (z7 : List Int) (a8 : Option Addr) (len8 cap8 : Nat) (z8 : List Int) (a9 : Option Addr) (len9 cap9 : Nat) (z9 : List Int) (a10 : Option Addr) (len10 cap10 : Nat) (z10 : List Int) (w : World) (w0 : (Lit.int .u32 a0).wf = true) (w1 : (Lit.int .u32 a1).wf = true) (w2 : (Lit.int .u32 a2).wf = true) (w3 : (Lit.int .u32 a3).wf = true) (w4 : IsRow .u8 w a4 len4 cap4 z4) (w5 : IsRow .u32 w a5 len5 cap5 z5) (w6 : IsRow .u32 w a6 len6 cap6 z6) (w7 : IsRow .u32 w a7 len7 cap7 z7) (w8 : IsRow .u32 w a8 len8 cap8 z8) (w9 : IsRow .u32 w a9 len9 cap9 z9) (w10 : IsRow .u32 w a10 len10 cap10 z10) :
    Calls Try.prog 4 #[.int .u32 a0, .int .u32 a1, .int .u32 a2, .int .u32 a3, .slice a4 len4 cap4, .slice a5 len5 cap5, .slice a6 len6 cap6, .slice a7 len7 cap7, .slice a8 len8 cap8, .slice a9 len9 cap9, .slice a10 len10 cap10] w fun e w' => e = .returned (.bool true) ∧ Below w.heap.size w w' := by
  have b0 := bounds_u32 w0
  have b1 := bounds_u32 w1
  have b2 := bounds_u32 w2
  have b3 := bounds_u32 w3
  clear w0 w1 w2 w3
  by_cases t0 : 65536 < len4
  · exact wide _ _ _ _ _ _ _ _ _ _ _ _ _ _ _ _ _ _ _ _ _ _ _ _ _ w (.inl t0)
  by_cases t1 : 65536 < len5
  · exact wide _ _ _ _ _ _ _ _ _ _ _ _ _ _ _ _ _ _ _ _ _ _ _ _ _ w (.inr (.inl ⟨by omega, t1⟩))
  by_cases t2 : 65536 < len6
  · exact wide _ _ _ _ _ _ _ _ _ _ _ _ _ _ _ _ _ _ _ _ _ _ _ _ _ w (.inr (.inr (.inl ⟨by omega, by omega, t2⟩)))
  by_cases t3 : 65536 < len7
  · exact wide _ _ _ _ _ _ _ _ _ _ _ _ _ _ _ _ _ _ _ _ _ _ _ _ _ w (.inr (.inr (.inr (.inl ⟨by omega, by omega, by omega, t3⟩))))
  by_cases t4 : 65536 < len8
  · exact wide _ _ _ _ _ _ _ _ _ _ _ _ _ _ _ _ _ _ _ _ _ _ _ _ _ w (.inr (.inr (.inr (.inr (.inl ⟨by omega, by omega, by omega, by omega, t4⟩)))))
  by_cases t5 : 65536 < len9
  · exact wide _ _ _ _ _ _ _ _ _ _ _ _ _ _ _ _ _ _ _ _ _ _ _ _ _ w (.inr (.inr (.inr (.inr (.inr (.inl ⟨by omega, by omega, by omega, by omega, by omega, t5⟩))))))
  by_cases t6 : 65536 < len10
  · exact wide _ _ _ _ _ _ _ _ _ _ _ _ _ _ _ _ _ _ _ _ _ _ _ _ _ w (.inr (.inr (.inr (.inr (.inr (.inr ⟨by omega, by omega, by omega, by omega, by omega, by omega, t6⟩))))))
  by_cases e1 : len5 ≠ len4
  · exact uneven _ _ _ _ _ _ _ _ _ _ _ _ _ _ _ _ _ _ _ _ _ _ _ _ _ w (by omega) (by omega) (by omega) (by omega) (by omega) (by omega) (by omega) (.inl e1)
  by_cases e2 : len6 ≠ len4
  · exact uneven _ _ _ _ _ _ _ _ _ _ _ _ _ _ _ _ _ _ _ _ _ _ _ _ _ w (by omega) (by omega) (by omega) (by omega) (by omega) (by omega) (by omega) (.inr (.inl ⟨by omega, e2⟩))
  by_cases e3 : len7 ≠ len4
  · exact uneven _ _ _ _ _ _ _ _ _ _ _ _ _ _ _ _ _ _ _ _ _ _ _ _ _ w (by omega) (by omega) (by omega) (by omega) (by omega) (by omega) (by omega) (.inr (.inr (.inl ⟨by omega, by omega, e3⟩)))
  by_cases e4 : len8 ≠ len4
  · exact uneven _ _ _ _ _ _ _ _ _ _ _ _ _ _ _ _ _ _ _ _ _ _ _ _ _ w (by omega) (by omega) (by omega) (by omega) (by omega) (by omega) (by omega) (.inr (.inr (.inr (.inl ⟨by omega, by omega, by omega, e4⟩))))
  by_cases e5 : len9 ≠ len4
  · exact uneven _ _ _ _ _ _ _ _ _ _ _ _ _ _ _ _ _ _ _ _ _ _ _ _ _ w (by omega) (by omega) (by omega) (by omega) (by omega) (by omega) (by omega) (.inr (.inr (.inr (.inr (.inl ⟨by omega, by omega, by omega, by omega, e5⟩)))))
  by_cases e6 : len10 ≠ len4
  · exact uneven _ _ _ _ _ _ _ _ _ _ _ _ _ _ _ _ _ _ _ _ _ _ _ _ _ w (by omega) (by omega) (by omega) (by omega) (by omega) (by omega) (by omega) (.inr (.inr (.inr (.inr (.inr ⟨by omega, by omega, by omega, by omega, by omega, e6⟩)))))
  obtain rfl : len4 = len5 := by omega
  obtain rfl : len4 = len6 := by omega
  obtain rfl : len4 = len7 := by omega
  obtain rfl : len4 = len8 := by omega
  obtain rfl : len4 = len9 := by omega
  obtain rfl : len4 = len10 := by omega
  exact main _ _ _ _ _ _ _ _ _ _ _ _ _ _ _ _ _ _ _ _ _ _ _ _ _ _ w (by omega) (intIn_of w4) (intIn_of w5) (intIn_of w6) (intIn_of w7) (intIn_of w8) (intIn_of w9) (intIn_of w10) (nth_in8 w4) (nth_in w7) (nth_in w8) (nth_in w9) (nth_in w10) b0 b1 b2 b3
end Go.Proofs.Ythmbphgpkpjopaa.fnDeclClausePosNotAfterEnd
