/- The walk of FnFilePosIsEarliestCandidate: the Go text returns true. Conditions: none. -/
import Derived.Test.YtfeibikakhmecaaCe
import Derived.OpenShut
namespace Go.Proofs.Ytfeibikakhmecaa.fnFilePosIsEarliestCandidate
open Go.RowKit
set_option linter.unusedVariables false
set_option linter.unusedSimpArgs false

theorem bel_of {w W : World} (h : SlotW w W) : Below w.heap.size w W := h.2.2.2.1
set_option maxHeartbeats 1000000 in
theorem fpos_any (F g n : Nat) (f : Nat → RawS) (L : Value) (w : World) (c1 : w.cell? ⟨F, 1, none⟩ = some (.slice (some ⟨g, 0, none⟩) n n)) (A : Option Addr) (m : Nat) (c2 : w.cell? ⟨F, 2, none⟩ = some (.slice A m m)) (h : IsBare w (.slice (some ⟨g, 0, none⟩) n n) n f) (hn : 0 < n) (hi : InS (f 0)) :
    Calls Try.prog 20 #[.pointer (some ⟨F, 0, none⟩)] w fun e w' => e = .returned (.agg #[.int .u32 (bO (f 0)), .int .u32 (bL (f 0))]) ∧ Below w.heap.size w w' := by
  have hc : ∀ W, Below w.heap.size w W → W.cell? ⟨F, 1, none⟩ = some (.slice (some ⟨g, 0, none⟩) n n) ∧ W.cell? ⟨F, 2, none⟩ = some (.slice A m m) ∧ F < W.heap.size := fun W hW =>
    ⟨cell_below hW c1, cell_below hW c2, by have := World.block_lt_of_cell? _ _ (cell_below hW c1); simpa using this⟩
  have HC := Lib.hid hc
  have HP := Lib.hid (show ∀ W, Below w.heap.size w W → Calls Try.prog 28 #[.slice (some ⟨g, 0, none⟩) n n, .slice A m m] W fun e w' => e = .returned (.agg #[.int .u32 (bO (f 0)), .int .u32 (bL (f 0))]) ∧ Below W.heap.size W w' from fun W hW =>
    spos_some g n 0 f _ W (h.below hW) hn hi)
  have HS := Lib.hid (SlotW.start w)
  clear hc c1 c2 h hi
  obtain ⟨c1, c2, hz⟩ := HC.out _ HS.out.2.2.2.1
  obtain ⟨⟨x, y, k0, k1⟩, f0, f1, hB, zz⟩ := HS.out
  go_enter Try.func20, Try.ntmps20
  go_wp2_with fail
  go_region_held3 (fun W9 => Hid (SlotW w W9) ∧ W9.cell? ⟨F, 1, none⟩ = some (.slice (some ⟨g, 0, none⟩) n n) ∧ W9.cell? ⟨F, 2, none⟩ = some (.slice A m m) ∧ F < W9.heap.size)
    ((refine keepS HC.out ?_; first | exact HS.out | exact HS.out.drew | exact HS.out.stored _ _ | exact HS.out.drew.stored _ _))
    (first | (go_at_call 28; refine (HP.out _ (bel_of (Hid.out (And.left (by assumption))))).mono ?_; rintro e wN ⟨rfl, hbN⟩; have HS := Lib.hid (SlotW.below (Hid.out (And.left (by assumption))) hbN); clear hbN; obtain ⟨c1, c2, hz⟩ := HC.out _ HS.out.2.2.2.1; obtain ⟨⟨x, y, k0, k1⟩, f0, f1, hB, zz⟩ := HS.out))
  go_wp2_with fail
  refine bodyPost_ret (v := .agg #[.int .u32 (bO (f 0)), .int .u32 (bL (f 0))]) (by simp [results, Try.results20, go_sem, k0, k1, zz]) rfl ⟨rfl, ?_⟩
  first | exact HS.out.set | exact HS.out.drew.set
/-- the plain law: where it begins -/
theorem b_or (z : RawS) : (0 < z.len ∧ bO z = cO (z.f 0) ∧ bL z = cL (z.f 0) ∧ cO (z.f 0) < sO z) ∨ (bO z = sO z ∧ bL z = sL z ∧ (0 < z.len → (validB (sO z) (sL z) && decide (cO (z.f 0) < sO z)) = false)) := by
  cases h : bT z
  · refine .inr ⟨by simp [bO, h], by simp [bL, h], fun hl => ?_⟩
    simpa [bT, hl] using h
  · have h2 := h
    simp [bT] at h2
    exact .inl ⟨h2.1, by simp [bO, h], by simp [bL, h], h2.2.2⟩
theorem zposS (z : RawS) (w : World) (h : InS z) : Calls Try.prog 15 #[.agg #[.int .u32 z.o, .int .u32 z.l, .int .u32 z.c]] w fun e w' => e = .returned (.agg #[.int .u32 (sO z), .int .u32 (sL z)]) ∧ Below w.heap.size w w' :=
  zpos_any z.o z.l z.c w h.1 h.2.1 h.2.2.1
theorem zposC (z : RawC) (w : World) (h : InC z) : Calls Try.prog 15 #[.agg #[.int .u32 z.o, .int .u32 z.l, .int .u32 z.c]] w fun e w' => e = .returned (.agg #[.int .u32 (cO z), .int .u32 (cL z)]) ∧ Below w.heap.size w w' :=
  zpos_any z.o z.l z.c w h.1 h.2.1 h.2.2.1
set_option maxRecDepth 100000 in
set_option maxHeartbeats 4000000 in
theorem walk (a0 : Option Addr) (len0 cap0 : Nat) (z0 : Nat → RawS) (a1 : Option Addr) (len1 cap1 : Nat) (z1 : Nat → RawC) (w : World) (w0 : IsStmts w a0 len0 cap0 z0) (w1 : IsComs w a1 len1 cap1 z1) :
    Calls Try.prog 5 #[.slice a0 len0 cap0, .slice a1 len1 cap1] w fun e w' => e = .returned (.bool true) ∧ Below w.heap.size w w' := by
  have H := Lib.hid w0
  have HC := Lib.hid w1
  clear w0 w1
  go_enter Try.func5, Try.ntmps5
  go_wp2_with fail
  refine (zb3_any a0 len0 cap0 z0 a1 len1 cap1 z1 _ H.out HC.out).mono ?_
  rintro e w1 ⟨⟨b, rfl, hb⟩, hb1⟩
  have HB := Lib.hid hb
  have H1 := Lib.hid hb1
  clear hb hb1
  cases b
  · go_wp2_with fail
    go_ret
    exact ⟨rfl, H1.out⟩
  obtain ⟨hs, hc⟩ := HB.out rfl
  have HS := Lib.hid hs
  have HCS := Lib.hid hc
  have hn := hs.1
  have hn1 := hc.1
  clear hs hc HB
  go_wp2_with fail
  refine (ztb_any a0 a1 len0 cap0 len1 cap1 z0 z1 _ _ (H.out.below H1.out) (HC.out.below H1.out) (by decide) HS.out.2 HCS.out.2 hn hn1).mono ?_
  rintro e w2 ⟨⟨b, rfl, hb⟩, hb2⟩
  have H2 := Lib.hid (below_next H1.out hb2)
  clear hb hb2
  cases b
  rotate_left
  · go_wp2_with fail
    go_ret
    exact ⟨rfl, H2.out⟩
  by_cases hz : len0 = 0
  · have hz' : (len0 : Int) = 0 := by omega
    go_wp2_with fail
    go_ret
    exact ⟨rfl, H2.out⟩
  have hz' : ((len0 : Int) == 0) = false := by simp; omega
  have h0 : 0 < len0 := by omega
  have h0' : (0 : Int) < (len0 : Int) := by omega
  clear hz
  go_wp2_with fail
  refine (zs_any a0 len0 cap0 z0 _ (H.out.below H2.out) h0 HS.out).mono ?_
  rintro e w3 ⟨g, rfl, hA, hb3⟩
  have HA := Lib.hid hA
  have H3 := Lib.hid (below_next H2.out hb3)
  clear hb3 hA
  go_wp2_with fail
  refine (zc_any a1 len1 cap1 z1 _ (HC.out.below H3.out) hn1).mono ?_
  rintro e w4 ⟨A, rfl, _, _, hb4⟩
  have HA := Lib.hid (HA.out.below hb4)
  have H4 := Lib.hid (below_next H3.out hb4)
  clear hb4
  obtain ⟨Z, eZ⟩ : ∃ Z, Z = z0 0 := ⟨_, rfl⟩
  have HI := H.out.in_ HS.out 0 h0
  obtain ⟨b, o, rfl, hx⟩ : ∃ b o : Nat, a0 = some ⟨b, o, none⟩ ∧ StmtAt w b o 0 (z0 0) := by
    rcases H.out with ⟨_, h, _⟩ | ⟨_, _, h, _⟩ | ⟨b, o, e, _, _, _, hx⟩
    · omega
    · omega
    · exact ⟨b, o, e, hx 0 h0⟩
  obtain ⟨c0, c1, c2, c3, _, hcs⟩ := hx
  rw [Nat.zero_mul, Nat.add_zero] at c0 c1 c2 c3
  rw [← eZ] at c0 c1 c2 c3 hcs HI
  have HG := Lib.hid (show ∀ W, Below w.heap.size w W → W.cell? ⟨b, o, none⟩ = some (.int .u32 Z.o) ∧ W.cell? ⟨b, o + 1, none⟩ = some (.int .u32 Z.l) ∧ W.cell? ⟨b, o + 2, none⟩ = some (.int .u32 Z.c) ∧ W.cell? ⟨b, o + 3, none⟩ = some (.slice Z.a Z.len Z.cap) ∧ b < W.heap.size from fun W hW =>
    ⟨cell_below hW c0, cell_below hW c1, cell_below hW c2, cell_below hW c3, by have := World.block_lt_of_cell? _ _ (cell_below hW c0); simpa using this⟩)
  have ho := HI.o
  have hl := HI.l
  have HCO := Lib.hid hcs
  clear c0 c1 c2 c3 hcs
  go_wp2_with fail
  refine (fpos_any w4.heap.size g len0 z0 (.slice none 0 0) _ (by simp [go_sem]) A len1 (by simp [go_sem]) (HA.out.below (by go_grown)) h0 (eZ ▸ HI)).mono ?_
  rintro e w5 ⟨rfl, hb5⟩
  have H5 := Lib.hid (show Below w.heap.size w w5 from below_next H4.out (below_next (by go_grown) hb5))
  rw [← eZ]
  clear hb5 HA H4 eZ
  have HID := Lib.hid HI
  clear HI
  rcases b_or Z with ⟨hlen, e1, e2, hlt⟩ | ⟨e1, e2, hno⟩
  · rw [e1, e2]
    have hic := HID.out.2.2.2.2 0 hlen
    have hco := hic.o
    have hcl := hic.l
    obtain ⟨Y, eY⟩ : ∃ Y, Y = Z.f 0 := ⟨_, rfl⟩
    obtain ⟨b2, o2, eA, hy⟩ : ∃ b2 o2 : Nat, Z.a = some ⟨b2, o2, none⟩ ∧ ComAt w b2 o2 0 (Z.f 0) := by
      rcases HCO.out with ⟨_, h, _⟩ | ⟨_, _, h, _⟩ | ⟨b2, o2, e, _, _, _, hx⟩
      · omega
      · omega
      · exact ⟨b2, o2, e, (hx 0 hlen).1⟩
    obtain ⟨d0, d1, d2, _⟩ := hy
    rw [Nat.zero_mul, Nat.add_zero] at d0 d1 d2
    rw [← eY] at d0 d1 d2 hic hco hcl hlt ⊢
    have HY := Lib.hid (show ∀ W, Below w.heap.size w W → W.cell? ⟨b2, o2, none⟩ = some (.int .u32 Y.o) ∧ W.cell? ⟨b2, o2 + 1, none⟩ = some (.int .u32 Y.l) ∧ W.cell? ⟨b2, o2 + 2, none⟩ = some (.int .u32 Y.c) ∧ b2 < W.heap.size from fun W hW =>
      ⟨cell_below hW d0, cell_below hW d1, cell_below hW d2, by have := World.block_lt_of_cell? _ _ (cell_below hW d0); simpa using this⟩)
    have hl0 : ((Z.len : Int) == 0) = false := by simp; omega
    have hl1 : (0 : Int) < (Z.len : Int) := by omega
    rw [eA] at HG
    have g1 : ¬ sO Z < cO Y := by omega
    have g2 : (validB (cO Y) (cL Y) && decide (sO Z < cO Y)) = false := by simp [g1]
    have g3 : (validB (cO Y) (cL Y) && decide (cO Y < cO Y)) = false := by simp
    have g4 : ¬ cO Y = sO Z := by omega
    clear d0 d1 d2 eY
    obtain ⟨c0, c1, c2, c3, zb⟩ := HG.out _ H5.out
    go_wp2_with fail
    refine (zposS Z _ HID.out).mono ?_
    rintro e w6 ⟨rfl, hb6⟩
    have H6 := Lib.hid (show Below w.heap.size w w6 from below_next H5.out (below_next (by go_grown) hb6))
    obtain ⟨p0, p1, _, _, _⟩ := slot_after hb6
    have zp := World.block_lt_of_cell? _ _ p0
    simp only at zp
    clear hb6 c0 c1 c2 c3 zb H5
    go_wp2_with fail
    refine (after_any (cO Y) (cL Y) (sO Z) (sL Z) _ hco hcl).mono ?_
    rintro e w7 ⟨rfl, hb7⟩
    rw [g2]
    have H7 := Lib.hid (show Below w.heap.size w w7 from below_next H6.out (below_next (by go_grown) hb7))
    have p0 := cell_below hb7 (cell_alloc p0)
    have p1 := cell_below hb7 (cell_alloc p1)
    obtain ⟨s0, s1, _, _, _⟩ := slot_after hb7
    have zs := World.block_lt_of_cell? _ _ s0
    simp only at zs
    have zp := World.block_lt_of_cell? _ _ p0
    simp only at zp
    clear hb7 H6
    obtain ⟨c0, c1, c2, c3, zb⟩ := HG.out _ H7.out
    obtain ⟨d0, d1, d2, zd⟩ := HY.out _ H7.out
    go_wp2_with fail
    refine (zposC Y _ hic).mono ?_
    rintro e w8 ⟨rfl, hb8⟩
    have H8 := Lib.hid (below_next H7.out hb8)
    have p0 := cell_below hb8 p0
    have p1 := cell_below hb8 p1
    have s0 := cell_below hb8 s0
    have s1 := cell_below hb8 s1
    have zs := World.block_lt_of_cell? _ _ s0
    have zp := World.block_lt_of_cell? _ _ p0
    simp only at zs zp
    clear hb8 H7 c0 c1 c2 c3 zb d0 d1 d2 zd
    go_wp2_with fail
    refine (after_any (cO Y) (cL Y) (cO Y) (cL Y) _ hco hcl).mono ?_
    rintro e w9 ⟨rfl, hb9⟩
    rw [g3]
    have H9 := Lib.hid (show Below w.heap.size w w9 from below_next H8.out (below_next (by go_grown) hb9))
    have p0 := cell_below hb9 (cell_alloc p0)
    have p1 := cell_below hb9 (cell_alloc p1)
    have s0 := cell_below hb9 (cell_alloc s0)
    have s1 := cell_below hb9 (cell_alloc s1)
    obtain ⟨l0, l1, _, _, _⟩ := slot_after hb9
    have zs := World.block_lt_of_cell? _ _ s0
    have zp := World.block_lt_of_cell? _ _ p0
    have zl := World.block_lt_of_cell? _ _ l0
    simp only at zs zp zl
    clear hb9 H8
    go_wp2_with fail
    go_ret
    exact ⟨rfl, H9.out⟩
  · rw [e1, e2]
    have g2 : (validB (sO Z) (sL Z) && decide (sO Z < sO Z)) = false := by simp
    obtain ⟨c0, c1, c2, c3, zb⟩ := HG.out _ H5.out
    go_wp2_with fail
    refine (zposS Z _ HID.out).mono ?_
    rintro e w6 ⟨rfl, hb6⟩
    have H6 := Lib.hid (show Below w.heap.size w w6 from below_next H5.out (below_next (by go_grown) hb6))
    obtain ⟨p0, p1, _, _, _⟩ := slot_after hb6
    have zp := World.block_lt_of_cell? _ _ p0
    simp only at zp
    clear hb6 c0 c1 c2 c3 zb H5
    go_wp2_with fail
    refine (after_any (sO Z) (sL Z) (sO Z) (sL Z) _ ho hl).mono ?_
    rintro e w7 ⟨rfl, hb7⟩
    rw [g2]
    have H7 := Lib.hid (show Below w.heap.size w w7 from below_next H6.out (below_next (by go_grown) hb7))
    have p0 := cell_below hb7 (cell_alloc p0)
    have p1 := cell_below hb7 (cell_alloc p1)
    obtain ⟨s0, s1, _, _, _⟩ := slot_after hb7
    have zs := World.block_lt_of_cell? _ _ s0
    simp only at zs
    have zp := World.block_lt_of_cell? _ _ p0
    simp only at zp
    clear hb7 H6
    by_cases hz : Z.len = 0
    · obtain ⟨c0, c1, c2, c3, zb⟩ := HG.out _ H7.out
      have hl0 : (Z.len : Int) = 0 := by omega
      go_wp2_with fail
      go_ret
      exact ⟨by simp, H7.out⟩
    have hlen : 0 < Z.len := by omega
    have g3 := hno hlen
    have hic := HID.out.2.2.2.2 0 hlen
    have hco := hic.o
    have hcl := hic.l
    obtain ⟨Y, eY⟩ : ∃ Y, Y = Z.f 0 := ⟨_, rfl⟩
    obtain ⟨b2, o2, eA, hy⟩ : ∃ b2 o2 : Nat, Z.a = some ⟨b2, o2, none⟩ ∧ ComAt w b2 o2 0 (Z.f 0) := by
      rcases HCO.out with ⟨_, h, _⟩ | ⟨_, _, h, _⟩ | ⟨b2, o2, e, _, _, _, hx⟩
      · omega
      · omega
      · exact ⟨b2, o2, e, (hx 0 hlen).1⟩
    obtain ⟨d0, d1, d2, _⟩ := hy
    rw [Nat.zero_mul, Nat.add_zero] at d0 d1 d2
    rw [← eY] at d0 d1 d2 hic hco hcl g3
    have HY := Lib.hid (show ∀ W, Below w.heap.size w W → W.cell? ⟨b2, o2, none⟩ = some (.int .u32 Y.o) ∧ W.cell? ⟨b2, o2 + 1, none⟩ = some (.int .u32 Y.l) ∧ W.cell? ⟨b2, o2 + 2, none⟩ = some (.int .u32 Y.c) ∧ b2 < W.heap.size from fun W hW =>
      ⟨cell_below hW d0, cell_below hW d1, cell_below hW d2, by have := World.block_lt_of_cell? _ _ (cell_below hW d0); simpa using this⟩)
    have hl0 : ((Z.len : Int) == 0) = false := by simp; omega
    have hl1 : (0 : Int) < (Z.len : Int) := by omega
    rw [eA] at HG
    clear d0 d1 d2 eY hno hz
    obtain ⟨c0, c1, c2, c3, zb⟩ := HG.out _ H7.out
    obtain ⟨d0, d1, d2, zd⟩ := HY.out _ H7.out
    go_wp2_with fail
    refine (zposC Y _ hic).mono ?_
    rintro e w8 ⟨rfl, hb8⟩
    have H8 := Lib.hid (below_next H7.out hb8)
    have p0 := cell_below hb8 p0
    have p1 := cell_below hb8 p1
    have s0 := cell_below hb8 s0
    have s1 := cell_below hb8 s1
    have zs := World.block_lt_of_cell? _ _ s0
    have zp := World.block_lt_of_cell? _ _ p0
    simp only at zs zp
    clear hb8 H7 c0 c1 c2 c3 zb d0 d1 d2 zd
    go_wp2_with fail
    refine (after_any (sO Z) (sL Z) (cO Y) (cL Y) _ ho hl).mono ?_
    rintro e w9 ⟨rfl, hb9⟩
    rw [g3]
    have H9 := Lib.hid (show Below w.heap.size w w9 from below_next H8.out (below_next (by go_grown) hb9))
    have p0 := cell_below hb9 (cell_alloc p0)
    have p1 := cell_below hb9 (cell_alloc p1)
    have s0 := cell_below hb9 (cell_alloc s0)
    have s1 := cell_below hb9 (cell_alloc s1)
    obtain ⟨l0, l1, _, _, _⟩ := slot_after hb9
    have zs := World.block_lt_of_cell? _ _ s0
    have zp := World.block_lt_of_cell? _ _ p0
    have zl := World.block_lt_of_cell? _ _ l0
    simp only at zs zp zl
    clear hb9 H8
    go_wp2_with fail
    go_ret
    exact ⟨rfl, H9.out⟩
end Go.Proofs.Ytfeibikakhmecaa.fnFilePosIsEarliestCandidate
