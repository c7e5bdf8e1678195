/- The walk of FnFileEndCoversLastComment: the Go text returns true. Conditions: none. -/
import Derived.Test.YtfeibikakhmecaaCe
import Derived.OpenShut
namespace Go.Proofs.Ytfeibikakhmecaa.fnFileEndCoversLastComment
open Go.RowKit
set_option linter.unusedVariables false
set_option linter.unusedSimpArgs false

theorem bel_of {w W : World} (h : SlotW w W) : Below w.heap.size w W := h.2.2.2.1
set_option maxHeartbeats 1000000 in
theorem fend_any (F g n p : Nat) (Z : RawS) (w : World) (c1 : w.cell? ⟨F, 1, none⟩ = some (.slice (some ⟨g, 0, none⟩) n n)) (c2 : w.cell? ⟨F, 2, none⟩ = some (.slice none 0 0)) (hn : 0 < n) (hn2 : n ≤ 1048576) (c0 : w.cell? ⟨g, n - 1, none⟩ = some (.pointer (some ⟨p, 0, none⟩))) (hb : BareAt g w p Z) (hi : InS Z) :
    Calls Try.prog 23 #[.pointer (some ⟨F, 0, none⟩)] w fun e w' => e = .returned (.agg #[.int .u32 (eO Z), .int .u32 (eL Z)]) ∧ Below w.heap.size w w' := by
  have hc : ∀ W, Below w.heap.size w W → W.cell? ⟨F, 1, none⟩ = some (.slice (some ⟨g, 0, none⟩) n n) ∧ W.cell? ⟨F, 2, none⟩ = some (.slice none 0 0) ∧ F < W.heap.size := fun W hW =>
    ⟨cell_below hW c1, cell_below hW c2, by have := World.block_lt_of_cell? _ _ (cell_below hW c1); simpa using this⟩
  have HC := Lib.hid hc
  have HP := Lib.hid (show ∀ W, Below w.heap.size w W → Calls Try.prog 27 #[.slice (some ⟨g, 0, none⟩) n n, .slice none 0 0] W fun e w' => e = .returned (.agg #[.int .u32 (eO Z), .int .u32 (eL Z)]) ∧ Below W.heap.size W w' from fun W hW =>
    send_any g 0 n n p g Z _ W (.inl ⟨0, rfl⟩) hn hn2 (by rw [Nat.zero_add]; exact cell_below hW c0) (hb.keep fun _ _ _ _ h => cell_below hW h) hi)
  have HS := Lib.hid (SlotW.start w)
  clear hc c1 c2 c0 hb hi
  obtain ⟨c1, c2, hz⟩ := HC.out _ HS.out.2.2.2.1
  obtain ⟨⟨x, y, k0, k1⟩, f0, f1, hB, zz⟩ := HS.out
  go_enter Try.func23, Try.ntmps23
  go_wp2_with fail
  go_region_held3 (fun W9 => Hid (SlotW w W9) ∧ W9.cell? ⟨F, 1, none⟩ = some (.slice (some ⟨g, 0, none⟩) n n) ∧ W9.cell? ⟨F, 2, none⟩ = some (.slice none 0 0) ∧ F < W9.heap.size)
    ((refine keepS HC.out ?_; first | exact HS.out | exact HS.out.drew | exact HS.out.stored _ _ | exact HS.out.drew.stored _ _))
    (first | (go_at_call 27; refine (HP.out _ (bel_of (Hid.out (And.left (by assumption))))).mono ?_; rintro e wN ⟨rfl, hbN⟩; have HS := Lib.hid (SlotW.below (Hid.out (And.left (by assumption))) hbN); clear hbN; obtain ⟨c1, c2, hz⟩ := HC.out _ HS.out.2.2.2.1; obtain ⟨⟨x, y, k0, k1⟩, f0, f1, hB, zz⟩ := HS.out))
  go_wp2_with fail
  refine bodyPost_ret (v := .agg #[.int .u32 (eO Z), .int .u32 (eL Z)]) (by simp [results, Try.results23, go_sem, k0, k1, zz]) rfl ⟨rfl, ?_⟩
  first | exact HS.out.set | exact HS.out.drew.set
/-- the plain law: where it ends -/
theorem e_or (z : RawS) : (0 < z.len ∧ eO z = ceO (z.f (z.len - 1)) ∧ eL z = ceL (z.f (z.len - 1)) ∧ sO z < ceO (z.f (z.len - 1))) ∨ (eO z = sO z ∧ eL z = sL z ∧ (0 < z.len → (validB (ceO (z.f (z.len - 1))) (ceL (z.f (z.len - 1))) && decide (sO z < ceO (z.f (z.len - 1)))) = false)) := by
  cases h : eT z
  · refine .inr ⟨by simp [eO, h], by simp [eL, h], fun hl => ?_⟩
    simpa [eT, hl] using h
  · have h2 := h
    simp [eT] at h2
    exact .inl ⟨h2.1, by simp [eO, h], by simp [eL, h], h2.2.2⟩
theorem e_facts (z : RawS) : (validB (sO z) (sL z) && decide (eO z < sO z)) = false ∧ (z.len = 0 → eO z = sO z ∧ eL z = sL z) ∧ (0 < z.len → (validB (ceO (z.f (z.len - 1))) (ceL (z.f (z.len - 1))) && decide (eO z < ceO (z.f (z.len - 1)))) = false ∧ ((eO z = sO z ∧ eL z = sL z) ∨ (eO z = ceO (z.f (z.len - 1)) ∧ eL z = ceL (z.f (z.len - 1)) ∧ ¬ ceO (z.f (z.len - 1)) = sO z))) := by
  rcases e_or z with ⟨h1, h2, h3, h4⟩ | ⟨h1, h2, h3⟩
  · rw [h2, h3]
    refine ⟨?_, fun h => by omega, fun _ => ⟨by simp, .inr ⟨rfl, rfl, by omega⟩⟩⟩
    have : ¬ ceO (z.f (z.len - 1)) < sO z := by omega
    simp [this]
  · rw [h1, h2]
    exact ⟨by simp, fun _ => ⟨rfl, rfl⟩, fun h => ⟨h3 h, .inl ⟨rfl, rfl⟩⟩⟩
/-- cells that are kept -/
def Keep (w : World) (l : List (Addr × Value)) (W : World) : Prop := Below w.heap.size w W ∧ ∀ q ∈ l, W.cell? q.1 = some q.2
theorem Keep.below {w U W : World} {l : List (Addr × Value)} (h : Keep w l U) (hb : Below U.heap.size U W) : Keep w l W := ⟨below_next h.1 hb, fun q hq => cell_below hb (h.2 q hq)⟩
theorem Keep.drew {w U : World} {l : List (Addr × Value)} (h : Keep w l U) : Keep w l U.drew := h.below (below_drew _)
theorem Keep.alloc {w U : World} {l : List (Addr × Value)} (h : Keep w l U) (o : Obj) : Keep w l (U.alloc o) := h.below ((Below.refl _ _).alloc (Nat.le_refl _) _)
theorem Keep.set3 {w U : World} {l : List (Addr × Value)} {c : Nat} {x y z : Value} (h : Keep w l U) (hc : w.heap.size ≤ c) (hl : ∀ q ∈ l, q.1.block ≠ c) : Keep w l (((U.setCell ⟨c, 0, none⟩ x).setCell ⟨c, 1, none⟩ y).setCell ⟨c, 2, none⟩ z) := by
  refine ⟨((h.1.setCell (p := ⟨c, 0, none⟩) hc _).setCell (p := ⟨c, 1, none⟩) hc _).setCell (p := ⟨c, 2, none⟩) hc _, fun q hq => ?_⟩
  have hne := hl q hq
  have e : ∀ o, (⟨c, o, none⟩ : Addr) ≠ q.1 := fun o e => hne (by rw [← e])
  rw [World.cell?_setCell_other _ _ _ _ (by first | exact (e 2).symm | exact e 2), World.cell?_setCell_other _ _ _ _ (by first | exact (e 1).symm | exact e 1), World.cell?_setCell_other _ _ _ _ (by first | exact (e 0).symm | exact e 0)]
  exact h.2 q hq
theorem keepK {w W : World} {l : List (Addr × Value)} {F : World → Prop} (h : ∀ W, Keep w l W → F W) (hs : Keep w l W) : Hid (Keep w l W) ∧ F W := ⟨hs, h W hs⟩
theorem slot3_after {w w1 : World} {x y z : Value} {t : TypeId} (hb1 : Below (w.alloc (.cells #[x, y, z] t)).heap.size (w.alloc (.cells #[x, y, z] t)) w1) :
    (w1.cell? ⟨w.heap.size, 0, none⟩ = some x ∧ w1.cell? ⟨w.heap.size, 1, none⟩ = some y ∧ w1.cell? ⟨w.heap.size, 2, none⟩ = some z) ∧ (w1.frozen? ⟨w.heap.size, 0, none⟩ = false ∧ w1.frozen? ⟨w.heap.size, 1, none⟩ = false ∧ w1.frozen? ⟨w.heap.size, 2, none⟩ = false) := by
  obtain ⟨hc, hf⟩ := bcell hb1
  refine ⟨⟨?_, ?_, ?_⟩, ?_, ?_, ?_⟩
  · rw [hc _ _ (by simp)]; simp [go_sem]
  · rw [hc _ _ (by simp)]; simp [go_sem]
  · rw [hc _ _ (by simp)]; simp [go_sem]
  · rw [hf _ _ (by simp)]; simp [go_sem]
  · rw [hf _ _ (by simp)]; simp [go_sem]
  · rw [hf _ _ (by simp)]; simp [go_sem]
theorem slot3_after_drew {w w1 : World} {x y z : Value} {t : TypeId} (hb1 : Below (w.alloc (.cells #[x, y, z] t)).drew.heap.size (w.alloc (.cells #[x, y, z] t)).drew w1) :
    (w1.cell? ⟨w.heap.size, 0, none⟩ = some x ∧ w1.cell? ⟨w.heap.size, 1, none⟩ = some y ∧ w1.cell? ⟨w.heap.size, 2, none⟩ = some z) ∧ (w1.frozen? ⟨w.heap.size, 0, none⟩ = false ∧ w1.frozen? ⟨w.heap.size, 1, none⟩ = false ∧ w1.frozen? ⟨w.heap.size, 2, none⟩ = false) := slot3_after (t := t) (below_next (below_drew _) hb1)
theorem zposS (z : RawS) (w : World) (h : InS z) : Calls Try.prog 15 #[.agg #[.int .u32 z.o, .int .u32 z.l, .int .u32 z.c]] w fun e w' => e = .returned (.agg #[.int .u32 (sO z), .int .u32 (sL z)]) ∧ Below w.heap.size w w' :=
  zpos_any z.o z.l z.c w h.1 h.2.1 h.2.2.1
theorem zposC (z : RawC) (w : World) (h : InC z) : Calls Try.prog 15 #[.agg #[.int .u32 z.o, .int .u32 z.l, .int .u32 z.c]] w fun e w' => e = .returned (.agg #[.int .u32 (cO z), .int .u32 (cL z)]) ∧ Below w.heap.size w w' :=
  zpos_any z.o z.l z.c w h.1 h.2.1 h.2.2.1
theorem comEndC (g : Nat) (Y : RawC) (w : World) (h : InC Y) (h0 : w.cell? ⟨g, 0, none⟩ = some (.int .u32 (cO Y))) (h1 : w.cell? ⟨g, 1, none⟩ = some (.int .u32 (cL Y))) (h2 : w.cell? ⟨g, 2, none⟩ = some (.string Y.s)) (hb : g < w.heap.size) :
    Calls Try.prog 24 #[.pointer (some ⟨g, 0, none⟩)] w fun e w' => e = .returned (.agg #[.int .u32 (ceO Y), .int .u32 (ceL Y)]) ∧ Below w.heap.size w w' :=
  comEnd_any g 0 (cO Y) (cL Y) Y.s w h.o h.l h.2.2.2 h0 h1 h2 hb
set_option maxRecDepth 100000 in
set_option maxHeartbeats 4000000 in
theorem walk (a0 : Option Addr) (len0 cap0 : Nat) (z0 : Nat → RawS) (w : World) (w0 : IsStmts w a0 len0 cap0 z0) :
    Calls Try.prog 6 #[.slice a0 len0 cap0] w fun e w' => e = .returned (.bool true) ∧ Below w.heap.size w w' := by
  have H := Lib.hid w0
  clear w0
  go_enter Try.func6, Try.ntmps6
  go_wp2_with fail
  refine (zb4_any a0 len0 cap0 z0 _ H.out).mono ?_
  rintro e w1 ⟨⟨b, rfl, hb⟩, hb1⟩
  have HB := Lib.hid hb
  have H1 := Lib.hid hb1
  clear hb hb1
  cases b
  · go_wp2_with fail
    go_ret
    exact ⟨rfl, H1.out⟩
  have HS := Lib.hid (HB.out rfl)
  have hn := HS.out.1
  clear HB
  go_wp2_with fail
  refine (ztb_any a0 none len0 cap0 0 0 z0 (fun _ => default) _ _ (H.out.below H1.out) (.inl ⟨rfl, rfl, rfl⟩) (by decide) HS.out.2 (fun i hi => absurd hi (by omega)) hn (by omega)).mono ?_
  rintro e w2 ⟨⟨b, rfl, hb⟩, hb2⟩
  have H2 := Lib.hid (below_next H1.out hb2)
  clear hb hb2
  cases b
  rotate_left
  · go_wp2_with fail
    go_ret
    exact ⟨rfl, H2.out⟩
  by_cases hz : len0 = 0
  · have hz' : (len0 : Int) = 0 := by omega
    go_wp2_with fail
    go_ret
    exact ⟨rfl, H2.out⟩
  have hz' : ((len0 : Int) == 0) = false := by simp; omega
  have h0 : 0 < len0 := by omega
  have h0' : (0 : Int) < (len0 : Int) := by omega
  have u1 : ((len0 : Int) - 1).toNat = len0 - 1 := by omega
  have u2 : (0 : Int) ≤ (len0 : Int) - 1 := by omega
  have u3 : (len0 : Int) - 1 < (len0 : Int) := by omega
  have u4 : (1 : Int) ≤ (len0 : Int) := by omega
  have u5 := IntWalk.i64_in ((len0 : Int) - 1) (by omega)
  clear hz
  go_wp2_with fail
  refine (zs_any a0 len0 cap0 z0 _ (H.out.below H2.out) h0 HS.out).mono ?_
  rintro e w3 ⟨g, rfl, hA, hb3⟩
  have HA := Lib.hid hA
  have H3 := Lib.hid (below_next H2.out hb3)
  clear hb3 hA
  obtain ⟨Z, eZ⟩ : ∃ Z, Z = z0 (len0 - 1) := ⟨_, rfl⟩
  have HI := H.out.in_ HS.out (len0 - 1) (by omega)
  obtain ⟨b, o, rfl, hx⟩ : ∃ b o : Nat, a0 = some ⟨b, o, none⟩ ∧ StmtAt w b o (len0 - 1) (z0 (len0 - 1)) := by
    rcases H.out with ⟨_, h, _⟩ | ⟨_, _, h, _⟩ | ⟨b, o, e, _, _, _, hx⟩
    · omega
    · omega
    · exact ⟨b, o, e, hx _ (by omega)⟩
  obtain ⟨c0, c1, c2, c3, _, hcs⟩ := hx
  obtain ⟨p, r0, hbare⟩ := HA.out.at (len0 - 1) (by omega)
  rw [← eZ] at c0 c1 c2 c3 hcs HI hbare
  have HR := Lib.hid (And.intro r0 hbare)
  have HG := Lib.hid (show ∀ W, Below w.heap.size w W → W.cell? ⟨b, o + (len0 - 1) * 4, none⟩ = some (.int .u32 Z.o) ∧ W.cell? ⟨b, o + (len0 - 1) * 4 + 1, none⟩ = some (.int .u32 Z.l) ∧ W.cell? ⟨b, o + (len0 - 1) * 4 + 2, none⟩ = some (.int .u32 Z.c) ∧ W.cell? ⟨b, o + (len0 - 1) * 4 + 3, none⟩ = some (.slice Z.a Z.len Z.cap) ∧ b < W.heap.size from fun W hW =>
    ⟨cell_below hW c0, cell_below hW c1, cell_below hW c2, cell_below hW c3, by have := World.block_lt_of_cell? _ _ (cell_below hW c0); simpa using this⟩)
  have ho := HI.o
  have hl := HI.l
  have HCO := Lib.hid hcs
  have HID := Lib.hid HI
  clear c0 c1 c2 c3 hcs HI r0 hbare eZ
  go_wp2_with fail
  refine (fend_any w3.heap.size g len0 p Z _ (by simp [go_sem]) (by simp [go_sem]) h0 hn (cell_alloc HR.out.1) (HR.out.2.keep fun _ _ _ _ h => cell_alloc h) HID.out).mono ?_
  rintro e w5 ⟨rfl, hb5⟩
  have H5 := Lib.hid (show Below w.heap.size w w5 from below_next H3.out (below_next (by go_grown) hb5))
  clear hb5 HA H3 HR
  obtain ⟨g2, hzero, hpos⟩ := e_facts Z
  obtain ⟨rO, eR⟩ : ∃ r, eO Z = r := ⟨_, rfl⟩
  obtain ⟨rL, eRL⟩ : ∃ r, eL Z = r := ⟨_, rfl⟩
  rw [eR] at g2
  rw [eR, eRL] at hzero hpos ⊢
  have HP := Lib.hid hpos
  have HZR := Lib.hid hzero
  clear hpos hzero eR eRL
  obtain ⟨c0, c1, c2, c3, zb⟩ := HG.out _ H5.out
  go_wp2_with fail
  refine (zposS Z _ HID.out).mono ?_
  rintro e w6 ⟨rfl, hb6⟩
  have H6 := Lib.hid (show Below w.heap.size w w6 from below_next H5.out (below_next (by go_grown) hb6))
  have r0 : w6.cell? ⟨w5.heap.size, 0, none⟩ = some (.int .u32 rO) := cell_below hb6 (cell_alloc (by simp [go_sem]))
  have r1 : w6.cell? ⟨w5.heap.size, 1, none⟩ = some (.int .u32 rL) := cell_below hb6 (cell_alloc (by simp [go_sem]))
  have k3 : w6.cell? ⟨w5.heap.size + 1, 3, none⟩ = some (.slice Z.a Z.len Z.cap) := cell_below hb6 (by simp [go_sem])
  have zr := World.block_lt_of_cell? _ _ r0
  have zk := World.block_lt_of_cell? _ _ k3
  simp only at zr zk
  clear hb6 c0 c1 c2 c3 zb H5
  go_wp2_with fail
  refine (after_any (sO Z) (sL Z) rO rL _ ho hl).mono ?_
  rintro e w7 ⟨rfl, hb7⟩
  rw [g2]
  have H7 := Lib.hid (show Below w.heap.size w w7 from below_next H6.out (below_next (by go_grown) hb7))
  have r0 := cell_below hb7 (cell_alloc r0)
  have r1 := cell_below hb7 (cell_alloc r1)
  have k3 := cell_below hb7 (cell_alloc k3)
  obtain ⟨s0, s1, _, _, _⟩ := slot_after hb7
  have zs := World.block_lt_of_cell? _ _ s0
  have y56 := zr
  have zr := World.block_lt_of_cell? _ _ r0
  have zk := World.block_lt_of_cell? _ _ k3
  simp only at zs zr zk
  clear hb7 H6
  by_cases hz : Z.len = 0
  · have hl0 : (Z.len : Int) = 0 := by omega
    obtain ⟨e1, e2⟩ := HZR.out hz
    subst e1 e2
    go_wp2_with fail
    go_ret
    exact ⟨by simp, H7.out⟩
  have hlen : 0 < Z.len := by omega
  obtain ⟨g3, hend⟩ := HP.out hlen
  have hic := HID.out.2.2.2.2 (Z.len - 1) (by omega)
  obtain ⟨Y, eY⟩ : ∃ Y, Y = Z.f (Z.len - 1) := ⟨_, rfl⟩
  obtain ⟨b2, o2, eA, hy⟩ : ∃ b2 o2 : Nat, Z.a = some ⟨b2, o2, none⟩ ∧ ComAt w b2 o2 (Z.len - 1) (Z.f (Z.len - 1)) := by
    rcases HCO.out with ⟨_, h, _⟩ | ⟨_, _, h, _⟩ | ⟨b2, o2, e, _, _, _, hx⟩
    · omega
    · omega
    · exact ⟨b2, o2, e, (hx _ (by omega)).1⟩
  obtain ⟨d0, d1, d2, d3⟩ := hy
  rw [← eY] at d0 d1 d2 d3 hic g3 hend
  have HE := Lib.hid hend
  have hco := hic.eo
  have hcl := hic.el
  have d0 := cell_below H7.out d0
  have d1 := cell_below H7.out d1
  have d2 := cell_below H7.out d2
  have d3 := cell_below H7.out d3
  have zd := World.block_lt_of_cell? _ _ d0
  simp only at zd
  have hzl := HID.out.2.2.2.1
  have hl0 : ((Z.len : Int) == 0) = false := by simp; omega
  have t1 : ((Z.len : Int) - 1).toNat = Z.len - 1 := by omega
  have t2 : (0 : Int) ≤ (Z.len : Int) - 1 := by omega
  have t3 : (Z.len : Int) - 1 < (Z.len : Int) := by omega
  have t4 : (1 : Int) ≤ (Z.len : Int) := by omega
  have t5 := IntWalk.i64_in ((Z.len : Int) - 1) (by omega)
  rw [eA] at k3
  clear eY hend hz HP HZR
  go_wp2_with fail
  refine wp_gen (fun V => Keep w [(⟨w5.heap.size, 0, none⟩, .int .u32 rO), (⟨w5.heap.size, 1, none⟩, .int .u32 rL), (⟨w6.heap.size, 0, none⟩, .int .u32 (sO Z)), (⟨w6.heap.size, 1, none⟩, .int .u32 (sL Z)), (⟨w7.heap.size, 0, none⟩, .int .u32 Y.o), (⟨w7.heap.size, 1, none⟩, .int .u32 Y.l), (⟨w7.heap.size, 2, none⟩, .int .u32 Y.c), (⟨w7.heap.size, 3, none⟩, .string Y.s)] V) ?_ ?_
  · refine ⟨below_next H7.out (by go_grown), fun q hq => ?_⟩
    simp only [List.mem_cons, List.not_mem_nil, or_false] at hq
    rcases hq with rfl | rfl | rfl | rfl | rfl | rfl | rfl | rfl
    · simp [go_sem, r0, zr]
    · simp [go_sem, r1, zr]
    · simp [go_sem, s0, zs]
    · simp [go_sem, s1, zs]
    all_goals simp [go_sem]
  intro V hV
  have HM := Lib.hid hV
  have HF := Lib.hid (show ∀ W, Keep w [(⟨w5.heap.size, 0, none⟩, .int .u32 rO), (⟨w5.heap.size, 1, none⟩, .int .u32 rL), (⟨w6.heap.size, 0, none⟩, .int .u32 (sO Z)), (⟨w6.heap.size, 1, none⟩, .int .u32 (sL Z)), (⟨w7.heap.size, 0, none⟩, .int .u32 Y.o), (⟨w7.heap.size, 1, none⟩, .int .u32 Y.l), (⟨w7.heap.size, 2, none⟩, .int .u32 Y.c), (⟨w7.heap.size, 3, none⟩, .string Y.s)] W → W.cell? ⟨w7.heap.size, 0, none⟩ = some (.int .u32 Y.o) ∧ W.cell? ⟨w7.heap.size, 1, none⟩ = some (.int .u32 Y.l) ∧ W.cell? ⟨w7.heap.size, 2, none⟩ = some (.int .u32 Y.c) ∧ W.cell? ⟨w7.heap.size, 3, none⟩ = some (.string Y.s) ∧ w7.heap.size < W.heap.size from fun W hW => by
    have k0 := hW.2 (⟨w7.heap.size, 0, none⟩, .int .u32 Y.o) (by simp)
    exact ⟨k0, hW.2 (⟨w7.heap.size, 1, none⟩, .int .u32 Y.l) (by simp), hW.2 (⟨w7.heap.size, 2, none⟩, .int .u32 Y.c) (by simp), hW.2 (⟨w7.heap.size, 3, none⟩, .string Y.s) (by simp), by have := World.block_lt_of_cell? _ _ k0; simpa using this⟩)
  clear hV d0 d1 d2 d3 zd r0 r1 s0 s1 k3 zk
  obtain ⟨m0, m1, m2, m3, zm⟩ := HF.out _ HM.out
  have yV : w.heap.size ≤ V.heap.size := HM.out.1.size
  have yL : ∀ q ∈ ([(⟨w5.heap.size, 0, none⟩, .int .u32 rO), (⟨w5.heap.size, 1, none⟩, .int .u32 rL), (⟨w6.heap.size, 0, none⟩, .int .u32 (sO Z)), (⟨w6.heap.size, 1, none⟩, .int .u32 (sL Z)), (⟨w7.heap.size, 0, none⟩, .int .u32 Y.o), (⟨w7.heap.size, 1, none⟩, .int .u32 Y.l), (⟨w7.heap.size, 2, none⟩, .int .u32 Y.c), (⟨w7.heap.size, 3, none⟩, .string Y.s)] : List (Addr × Value)), q.1.block ≠ V.heap.size := by
    intro q hq
    simp only [List.mem_cons, List.not_mem_nil, or_false] at hq
    rcases hq with rfl | rfl | rfl | rfl | rfl | rfl | rfl | rfl <;> (simp only; omega)
  have YL := Lib.hid yL
  clear yL
  go_region_held3 (fun W9 => Hid (Keep w [(⟨w5.heap.size, 0, none⟩, .int .u32 rO), (⟨w5.heap.size, 1, none⟩, .int .u32 rL), (⟨w6.heap.size, 0, none⟩, .int .u32 (sO Z)), (⟨w6.heap.size, 1, none⟩, .int .u32 (sL Z)), (⟨w7.heap.size, 0, none⟩, .int .u32 Y.o), (⟨w7.heap.size, 1, none⟩, .int .u32 Y.l), (⟨w7.heap.size, 2, none⟩, .int .u32 Y.c), (⟨w7.heap.size, 3, none⟩, .string Y.s)] W9) ∧ W9.cell? ⟨w7.heap.size, 0, none⟩ = some (.int .u32 Y.o) ∧ W9.cell? ⟨w7.heap.size, 1, none⟩ = some (.int .u32 Y.l) ∧ W9.cell? ⟨w7.heap.size, 2, none⟩ = some (.int .u32 Y.c) ∧ W9.cell? ⟨w7.heap.size, 3, none⟩ = some (.string Y.s) ∧ w7.heap.size < W9.heap.size)
    ((refine keepK HF.out ?_; first | exact HM.out | exact HM.out.drew | exact HM.out.alloc _ | exact HM.out.drew.alloc _ | exact (HM.out.alloc _).drew | exact HM.out.set3 yV YL.out | exact HM.out.drew.set3 yV YL.out))
    (first | (go_at_call 15; refine (zposC Y _ hic).mono ?_; rintro e wN ⟨rfl, hbN⟩; have HM := Lib.hid (Keep.below (Hid.out (And.left (by assumption))) hbN); (first | (have hq := slot3_after hbN; obtain ⟨⟨l0, l1, l2⟩, g0, g1, g5⟩ := hq; change wN.cell? ⟨V.heap.size, 0, none⟩ = _ at l0; change wN.cell? ⟨V.heap.size, 1, none⟩ = _ at l1; change wN.cell? ⟨V.heap.size, 2, none⟩ = _ at l2; change wN.frozen? ⟨V.heap.size, 0, none⟩ = _ at g0; change wN.frozen? ⟨V.heap.size, 1, none⟩ = _ at g1; change wN.frozen? ⟨V.heap.size, 2, none⟩ = _ at g5) | (have hq := slot3_after_drew hbN; obtain ⟨⟨l0, l1, l2⟩, g0, g1, g5⟩ := hq; change wN.cell? ⟨V.heap.size, 0, none⟩ = _ at l0; change wN.cell? ⟨V.heap.size, 1, none⟩ = _ at l1; change wN.cell? ⟨V.heap.size, 2, none⟩ = _ at l2; change wN.frozen? ⟨V.heap.size, 0, none⟩ = _ at g0; change wN.frozen? ⟨V.heap.size, 1, none⟩ = _ at g1; change wN.frozen? ⟨V.heap.size, 2, none⟩ = _ at g5) | skip); clear hbN; obtain ⟨m0, m1, m2, m3, zm⟩ := HF.out _ HM.out))
  all_goals
    first
      | (refine fin_gen (fun V2 => Keep w [(⟨w5.heap.size, 0, none⟩, .int .u32 rO), (⟨w5.heap.size, 1, none⟩, .int .u32 rL), (⟨w6.heap.size, 0, none⟩, .int .u32 (sO Z)), (⟨w6.heap.size, 1, none⟩, .int .u32 (sL Z)), (⟨w7.heap.size, 0, none⟩, .int .u32 Y.o), (⟨w7.heap.size, 1, none⟩, .int .u32 Y.l), (⟨w7.heap.size, 2, none⟩, .int .u32 Y.c), (⟨w7.heap.size, 3, none⟩, .string Y.s)] V2 ∧ V2.cell? ⟨V.heap.size, 0, none⟩ = some (.int .u32 (cO Y)) ∧ V2.cell? ⟨V.heap.size, 1, none⟩ = some (.int .u32 (cL Y)) ∧ V2.cell? ⟨V.heap.size, 2, none⟩ = some (.string Y.s)) ⟨HM.out.set3 yV YL.out, ?_, ?_, ?_⟩ ?_; · simp [go_sem, l0]
         · simp [go_sem, l1]
         · simp [go_sem, l2])
      | (refine fin_gen (fun V2 => Keep w [(⟨w5.heap.size, 0, none⟩, .int .u32 rO), (⟨w5.heap.size, 1, none⟩, .int .u32 rL), (⟨w6.heap.size, 0, none⟩, .int .u32 (sO Z)), (⟨w6.heap.size, 1, none⟩, .int .u32 (sL Z)), (⟨w7.heap.size, 0, none⟩, .int .u32 Y.o), (⟨w7.heap.size, 1, none⟩, .int .u32 Y.l), (⟨w7.heap.size, 2, none⟩, .int .u32 Y.c), (⟨w7.heap.size, 3, none⟩, .string Y.s)] V2 ∧ V2.cell? ⟨wN.heap.size, 0, none⟩ = some (.int .u32 (cO Y)) ∧ V2.cell? ⟨wN.heap.size, 1, none⟩ = some (.int .u32 (cL Y)) ∧ V2.cell? ⟨wN.heap.size, 2, none⟩ = some (.string Y.s)) ⟨HM.out.alloc _, ?_, ?_, ?_⟩ ?_; · simp [go_sem]
         · simp [go_sem]
         · simp [go_sem])
    rintro V2 ⟨hM2, l0, l1, l2⟩
    have HM2 := Lib.hid hM2
    have zl := World.block_lt_of_cell? _ _ l0
    simp only at zl
    clear hM2
    go_wp2_with fail
    refine (comEndC _ Y _ hic l0 l1 l2 zl).mono ?_
    rintro e w8 ⟨rfl, hb8⟩
    have HM8 := Lib.hid (HM2.out.below hb8)
    clear hb8 HM2 l0 l1 l2 zl m0 m1 m2 m3 zm
    have r0 := HM8.out.2 (⟨w5.heap.size, 0, none⟩, .int .u32 rO) (by simp)
    have r1 := HM8.out.2 (⟨w5.heap.size, 1, none⟩, .int .u32 rL) (by simp)
    simp only at r0 r1
    have zr := World.block_lt_of_cell? _ _ r0
    simp only at zr
    go_wp2_with fail
    refine (after_any (ceO Y) (ceL Y) rO rL _ hco hcl).mono ?_
    rintro e w9 ⟨rfl, hb9⟩
    rw [g3]
    have HM9 := Lib.hid ((HM8.out.alloc _).below hb9)
    obtain ⟨l0, l1, _, _, _⟩ := slot_after hb9
    have zl := World.block_lt_of_cell? _ _ l0
    simp only at zl
    clear hb9 HM8 r0 r1 zr
    have r0 := HM9.out.2 (⟨w5.heap.size, 0, none⟩, .int .u32 rO) (by simp)
    have r1 := HM9.out.2 (⟨w5.heap.size, 1, none⟩, .int .u32 rL) (by simp)
    have s0 := HM9.out.2 (⟨w6.heap.size, 0, none⟩, .int .u32 (sO Z)) (by simp)
    have s1 := HM9.out.2 (⟨w6.heap.size, 1, none⟩, .int .u32 (sL Z)) (by simp)
    simp only at r0 r1 s0 s1
    have zr := World.block_lt_of_cell? _ _ r0
    have zs := World.block_lt_of_cell? _ _ s0
    simp only at zr zs
    rcases HE.out with ⟨rfl, rfl⟩ | ⟨rfl, rfl, g4⟩
    all_goals
      go_wp2_with fail
      go_ret
      exact ⟨rfl, HM9.out.1⟩
end Go.Proofs.Ytfeibikakhmecaa.fnFileEndCoversLastComment
