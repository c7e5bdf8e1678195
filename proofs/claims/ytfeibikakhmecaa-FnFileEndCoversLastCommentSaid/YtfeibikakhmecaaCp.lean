/- Where lists of bare statements and comments begin and end. Conditions: the cells. -/
import Derived.Test.YtfeibikakhmecaaCs
namespace Go.Proofs.Ytfeibikakhmecaa
open Go.RowKit
set_option linter.unusedVariables false
set_option linter.unusedSimpArgs false

set_option maxHeartbeats 400000 in
theorem comPos_any (g off : Nat) (o lc : Int) (w : World) (h0 : w.cell? ⟨g, off, none⟩ = some (.int .u32 o)) (h1 : w.cell? ⟨g, off + 1, none⟩ = some (.int .u32 lc)) (hb : g < w.heap.size) :
    Calls Try.prog 33 #[.pointer (some ⟨g, off, none⟩)] w fun e w' => e = .returned (.agg #[.int .u32 o, .int .u32 lc]) ∧ Below w.heap.size w w' := by
  go_enter Try.func33, Try.ntmps33
  go_wp2
  go_returns
  exact ⟨rfl, by go_grown⟩
/-- the result's own slot, kept through calls -/
def SlotW (w W : World) : Prop := (∃ x y, W.cell? ⟨w.heap.size, 0, none⟩ = some x ∧ W.cell? ⟨w.heap.size, 1, none⟩ = some y) ∧ W.frozen? ⟨w.heap.size, 0, none⟩ = false ∧ W.frozen? ⟨w.heap.size, 1, none⟩ = false ∧ Below w.heap.size w W ∧ w.heap.size < W.heap.size
theorem SlotW.start (w : World) : SlotW w (w.alloc (.cells #[.int .u32 0, .int .u32 0] 29)) := ⟨⟨_, _, by simp [go_sem]; rfl, by simp [go_sem]; rfl⟩, by simp [go_sem], by simp [go_sem], by go_grown, by simp⟩
theorem SlotW.below {w U W : World} (h : SlotW w U) (hb : Below U.heap.size U W) : SlotW w W := by
  obtain ⟨⟨x, y, h1, h2⟩, h3, h4, h5, h6⟩ := h
  exact ⟨⟨x, y, cell_below hb h1, cell_below hb h2⟩, by rw [hb.frozen (p := ⟨w.heap.size, 0, none⟩) h6]; exact h3, by rw [hb.frozen (p := ⟨w.heap.size, 1, none⟩) h6]; exact h4, h5.trans (hb.mono (Nat.le_of_lt h6)), Nat.lt_of_lt_of_le h6 hb.size⟩
theorem SlotW.alloc {w U : World} (h : SlotW w U) (o : Obj) : SlotW w (U.alloc o) := h.below ((Below.refl _ _).alloc (Nat.le_refl _) _)
theorem SlotW.drew {w U : World} (h : SlotW w U) : SlotW w U.drew := h.below (below_drew _)
theorem SlotW.set {w U : World} {a b : Value} (h : SlotW w U) : Below w.heap.size w ((U.setCell ⟨w.heap.size, 0, none⟩ a).setCell ⟨w.heap.size, 1, none⟩ b) := (h.2.2.2.1.setCell (p := ⟨w.heap.size, 0, none⟩) (Nat.le_refl _) _).setCell (p := ⟨w.heap.size, 1, none⟩) (Nat.le_refl _) _
theorem SlotW.stored {w U : World} (a b : Value) (h : SlotW w U) : SlotW w ((U.setCell ⟨w.heap.size, 0, none⟩ a).setCell ⟨w.heap.size, 1, none⟩ b) := by
  have hs := h.set (a := a) (b := b)
  obtain ⟨⟨x, y, h1, h2⟩, h3, h4, h5, h6⟩ := h
  exact ⟨⟨a, b, by simp [go_sem, h1], by simp [go_sem, h2]⟩, by simpa [go_sem] using h3, by simpa [go_sem] using h4, hs, by simpa using h6⟩
theorem keepS {w W : World} {F : World → Prop} (h : ∀ W, Below w.heap.size w W → F W) (hs : SlotW w W) : Hid (SlotW w W) ∧ F W := ⟨hs, h W hs.2.2.2.1⟩
set_option maxHeartbeats 1000000 in
theorem comEnd_any (g off : Nat) (o lc : Int) (s : ByteArray) (w : World) (ho : 0 ≤ o ∧ o ≤ 4294967295) (hl : 0 ≤ lc ∧ lc ≤ 4294967295) (hs : s.size ≤ 1048576) (h0 : w.cell? ⟨g, off, none⟩ = some (.int .u32 o)) (h1 : w.cell? ⟨g, off + 1, none⟩ = some (.int .u32 lc)) (h2 : w.cell? ⟨g, off + 2, none⟩ = some (.string s)) (hb : g < w.heap.size) :
    Calls Try.prog 24 #[.pointer (some ⟨g, off, none⟩)] w fun e w' => e = .returned (.agg #[.int .u32 (addO o lc (1 + s.size)), .int .u32 (addLc o lc (1 + s.size))]) ∧ Below w.heap.size w w' := by
  have v1 := IntWalk.i64_in (1 + (s.size : Int)) (by omega)
  have hc : ∀ W, Below w.heap.size w W → W.cell? ⟨g, off, none⟩ = some (.int .u32 o) ∧ W.cell? ⟨g, off + 1, none⟩ = some (.int .u32 lc) ∧ W.cell? ⟨g, off + 2, none⟩ = some (.string s) ∧ g < W.heap.size := fun W hW =>
    ⟨cell_below hW h0, cell_below hW h1, cell_below hW h2, Nat.lt_of_lt_of_le hb hW.size⟩
  have HC := Lib.hid hc
  have HS := Lib.hid (SlotW.start w)
  clear hc h0 h1 h2 hb
  obtain ⟨h0, h1, h2, hz⟩ := HC.out _ HS.out.2.2.2.1
  obtain ⟨⟨x, y, k0, k1⟩, f0, f1, hB, zz⟩ := HS.out
  go_enter Try.func24, Try.ntmps24
  go_wp2_with fail
  go_region_held3 (fun W9 => Hid (SlotW w W9) ∧ W9.cell? ⟨g, off, none⟩ = some (.int .u32 o) ∧ W9.cell? ⟨g, off + 1, none⟩ = some (.int .u32 lc) ∧ W9.cell? ⟨g, off + 2, none⟩ = some (.string s) ∧ g < W9.heap.size)
    ((refine keepS HC.out ?_; first | exact HS.out | exact HS.out.drew | exact HS.out.stored _ _ | exact HS.out.drew.stored _ _))
    (first | (go_at_call 30; refine (addCol_any o lc (1 + s.size) _ ho hl (by omega)).mono ?_; rintro e wN ⟨rfl, hbN⟩; have HS := Lib.hid (SlotW.below (Hid.out (And.left (by assumption))) hbN); clear hbN; obtain ⟨h0, h1, h2, hz⟩ := HC.out _ HS.out.2.2.2.1; obtain ⟨⟨x, y, k0, k1⟩, f0, f1, hB, zz⟩ := HS.out))
  go_wp2_with fail
  refine bodyPost_ret (v := .agg #[.int .u32 (addO o lc (1 + s.size)), .int .u32 (addLc o lc (1 + s.size))]) (by simp [results, Try.results24, go_sem, k0, k1, zz]) rfl ⟨rfl, ?_⟩
  first | exact HS.out.set | exact HS.out.drew.set
theorem valid00 : validB 0 0 = false := by simp [validB]
set_option maxHeartbeats 1000000 in
theorem stEnd_any (p : Nat) (o lc : Int) (w : World) (c1 : w.cell? ⟨p, 1, none⟩ = some .nilIface) (h0 : w.cell? ⟨p, 2, none⟩ = some (.int .u32 o)) (h1 : w.cell? ⟨p, 3, none⟩ = some (.int .u32 lc)) (c4 : w.cell? ⟨p, 4, none⟩ = some (.int .u32 0)) (c5 : w.cell? ⟨p, 5, none⟩ = some (.int .u32 0)) (c6 : w.cell? ⟨p, 6, none⟩ = some (.bool false)) (c10 : w.cell? ⟨p, 10, none⟩ = some (.slice none 0 0)) (hb : p < w.heap.size) :
    Calls Try.prog 31 #[.pointer (some ⟨p, 0, none⟩)] w fun e w' => e = .returned (.agg #[.int .u32 o, .int .u32 lc]) ∧ Below w.heap.size w w' := by
  have hk : ∀ W, Below (w.alloc (.cells #[.int .u32 0, .int .u32 0] 29)).heap.size (w.alloc (.cells #[.int .u32 0, .int .u32 0] 29)) W → W.cell? ⟨p, 1, none⟩ = some .nilIface ∧ W.cell? ⟨p, 2, none⟩ = some (.int .u32 o) ∧ W.cell? ⟨p, 3, none⟩ = some (.int .u32 lc) ∧ W.cell? ⟨p, 6, none⟩ = some (.bool false) ∧ W.cell? ⟨p, 10, none⟩ = some (.slice none 0 0) ∧ p < W.heap.size := fun W hW =>
    ⟨cell_below hW (cell_alloc c1), cell_below hW (cell_alloc h0), cell_below hW (cell_alloc h1), cell_below hW (cell_alloc c6), cell_below hW (cell_alloc c10), by have := hW.size; simp at this; omega⟩
  have HK := Lib.hid hk
  clear hk
  go_enter Try.func31, Try.ntmps31
  go_wp2_with fail
  refine (isValid_any 0 0 _ (by omega) (by omega)).mono ?_
  rintro e w1 ⟨rfl, hb1⟩
  rw [valid00]
  obtain ⟨q1, q2, q3, q6, q10, qz⟩ := HK.out w1 hb1
  obtain ⟨k0, k1, f0, f1, hB⟩ := slot_after hb1
  have zz := World.block_lt_of_cell? _ _ k0
  simp only at zz
  clear hb1 HK c1 h0 h1 c4 c5 c6 c10 hb
  go_wp2_with fail
  refine bodyPost_ret (v := .agg #[.int .u32 o, .int .u32 lc]) (by simp [results, Try.results31, go_sem, k0, k1, zz]) rfl ⟨rfl, ?_⟩
  exact ((hB.setCell (p := ⟨w.heap.size, 0, none⟩) (Nat.le_refl _) _).setCell (p := ⟨w.heap.size, 1, none⟩) (Nat.le_refl _) _).alloc (by simp; omega) _
/-- a comment's and a statement's begin and end -/
def cO (z : RawC) : Int := offCap z.o
def cL (z : RawC) : Int := lcOf z.l z.c
def ceO (z : RawC) : Int := addO (cO z) (cL z) (1 + z.s.size)
def ceL (z : RawC) : Int := addLc (cO z) (cL z) (1 + z.s.size)
def sO (z : RawS) : Int := offCap z.o
def sL (z : RawS) : Int := lcOf z.l z.c
/-- does the first comment stand ahead of the statement; does the last one end behind it -/
def bT (z : RawS) : Bool := decide (0 < z.len) && (validB (sO z) (sL z) && decide (cO (z.f 0) < sO z))
def eT (z : RawS) : Bool := decide (0 < z.len) && (validB (ceO (z.f (z.len - 1))) (ceL (z.f (z.len - 1))) && decide (sO z < ceO (z.f (z.len - 1))))
def bO (z : RawS) : Int := if bT z = true then cO (z.f 0) else sO z
def bL (z : RawS) : Int := if bT z = true then cL (z.f 0) else sL z
def eO (z : RawS) : Int := if eT z = true then ceO (z.f (z.len - 1)) else sO z
def eL (z : RawS) : Int := if eT z = true then ceL (z.f (z.len - 1)) else sL z
def InC (z : RawC) : Prop := (0 ≤ z.o ∧ z.o ≤ 4294967295) ∧ (0 ≤ z.l ∧ z.l ≤ 4294967295) ∧ (0 ≤ z.c ∧ z.c ≤ 4294967295) ∧ z.s.size ≤ 1048576
def InS (z : RawS) : Prop := (0 ≤ z.o ∧ z.o ≤ 4294967295) ∧ (0 ≤ z.l ∧ z.l ≤ 4294967295) ∧ (0 ≤ z.c ∧ z.c ≤ 4294967295) ∧ z.len ≤ 1048576 ∧ ∀ j, j < z.len → InC (z.f j)
theorem InC.o {z : RawC} (h : InC z) : 0 ≤ cO z ∧ cO z ≤ 4294967295 := by have := offCap_in z.o h.1.1; unfold cO; omega
theorem InC.l {z : RawC} (h : InC z) : 0 ≤ cL z ∧ cL z ≤ 4294967295 := lcOf_in _ _ h.2.1.1 h.2.2.1.1
theorem InC.eo {z : RawC} (h : InC z) : 0 ≤ ceO z ∧ ceO z ≤ 4294967295 := addO_in _ _ _ h.o
theorem InC.el {z : RawC} (h : InC z) : 0 ≤ ceL z ∧ ceL z ≤ 4294967295 := addLc_in _ _ _ h.l
theorem InS.o {z : RawS} (h : InS z) : 0 ≤ sO z ∧ sO z ≤ 4294967295 := by have := offCap_in z.o h.1.1; unfold sO; omega
theorem InS.l {z : RawS} (h : InS z) : 0 ≤ sL z ∧ sL z ≤ 4294967295 := lcOf_in _ _ h.2.1.1 h.2.2.1.1
set_option maxRecDepth 100000 in
set_option maxHeartbeats 2000000 in
theorem spos_some (g n c : Nat) (f : Nat → RawS) (L : Value) (w : World) (h : IsBare w (.slice (some ⟨g, 0, none⟩) n n) n f) (hn : 0 < n) (hi : InS (f 0)) :
    Calls Try.prog 28 #[.slice (some ⟨g, 0, none⟩) n n, L] w fun e w' => e = .returned (.agg #[.int .u32 (bO (f 0)), .int .u32 (bL (f 0))]) ∧ Below w.heap.size w w' := by
  rcases h with ⟨_, h⟩ | ⟨g', e, h⟩
  · exact absurd h (by omega)
  obtain rfl : g = g' := by injection e with e; injection e with e; injection e with e
  obtain ⟨p, c0, _, ⟨v, d0, hv, _⟩, d1, ⟨d2, d3⟩, _⟩ := h 0 hn
  obtain ⟨Z, eZ⟩ : ∃ Z, Z = f 0 := ⟨_, rfl⟩
  rw [← eZ] at hi d2 d3 hv ⊢
  have hn' : (0 : Int) < (n : Int) := by omega
  have z0 := World.block_lt_of_cell? _ _ c0
  have z1 := World.block_lt_of_cell? _ _ d0
  simp only at z0 z1
  have ho := hi.o
  have hl := hi.l
  change w.cell? ⟨p, 2, none⟩ = some (.int .u32 (sO Z)) at d2
  change w.cell? ⟨p, 3, none⟩ = some (.int .u32 (sL Z)) at d3
  obtain ⟨A, rfl⟩ : ∃ A : Option Addr, v = .slice A Z.len Z.len := by
    rcases hv with ⟨rfl, h⟩ | ⟨q, rfl, _⟩
    · rw [h]; exact ⟨none, rfl⟩
    · exact ⟨_, rfl⟩
  have HK := Lib.hid (show ∀ W, Below w.heap.size w W → W.cell? ⟨g, 0, none⟩ = some (.pointer (some ⟨p, 0, none⟩)) ∧ W.cell? ⟨p, 0, none⟩ = some (.slice A Z.len Z.len) ∧ W.cell? ⟨p, 2, none⟩ = some (.int .u32 (sO Z)) ∧ W.cell? ⟨p, 3, none⟩ = some (.int .u32 (sL Z)) ∧ g < W.heap.size ∧ p < W.heap.size from fun W hW =>
    ⟨cell_below hW c0, cell_below hW d0, cell_below hW d2, cell_below hW d3, Nat.lt_of_lt_of_le z0 hW.size, Nat.lt_of_lt_of_le z1 hW.size⟩)
  have HV := Lib.hid hv
  have HI := Lib.hid hi
  clear h e eZ hi hv d1
  by_cases hz : Z.len = 0
  · have hT : bT Z = false := by simp [bT, hz]
    rw [bO, bL, hT]
    have hz' : (Z.len : Int) = 0 := by omega
    go_enter Try.func28, Try.ntmps28
    go_wp2_with fail
    refine (stmtPos_any p (sO Z) (sL Z) _ (HK.out _ (by go_grown)).2.2.1 (HK.out _ (by go_grown)).2.2.2.1 (HK.out _ (by go_grown)).2.2.2.2.2).mono ?_
    rintro e w1 ⟨rfl, hb1⟩
    have hS := (SlotW.start w).below hb1
    have HS := Lib.hid hS
    obtain ⟨⟨x, y, k0, k1⟩, f0, f1, hB, zz⟩ := hS
    clear hb1 c0 d0 d2 d3 z0 z1
    obtain ⟨c0, d0, d2, d3, z0, z1⟩ := HK.out _ hB
    go_wp2_with fail
    refine bodyPost_ret (v := .agg #[.int .u32 (sO Z), .int .u32 (sL Z)]) (by simp [results, Try.results28, go_sem, k0, k1, zz]) rfl ⟨by simp, ?_⟩
    first | exact SlotW.set HS.out | (refine (SlotW.set HS.out).alloc ?_ _; simp; omega)
  · obtain ⟨q, rfl, hq⟩ : ∃ q : Nat, A = some ⟨q, 0, none⟩ ∧ ∀ i, i < Z.len → HashAt w q i (Z.f i) := by
      rcases HV.out with ⟨_, h⟩ | ⟨q, e, h⟩
      · exact absurd h hz
      · exact ⟨q, by injection e, h⟩
    obtain ⟨q0, q1, _⟩ := hq 0 (by omega)
    change w.cell? ⟨q, 0 * 3, none⟩ = some (.int .u32 (cO (Z.f 0))) at q0
    change w.cell? ⟨q, 0 * 3 + 1, none⟩ = some (.int .u32 (cL (Z.f 0))) at q1
    rw [Nat.zero_mul] at q0 q1
    have HQ := Lib.hid (show ∀ W, Below w.heap.size w W → W.cell? ⟨q, 0, none⟩ = some (.int .u32 (cO (Z.f 0))) ∧ W.cell? ⟨q, 1, none⟩ = some (.int .u32 (cL (Z.f 0))) ∧ q < W.heap.size from fun W hW =>
      ⟨cell_below hW q0, cell_below hW q1, by have := World.block_lt_of_cell? _ _ (cell_below hW q0); simpa using this⟩)
    have hz' : (0 : Int) < (Z.len : Int) := by omega
    have hic := HI.out.2.2.2.2 0 (by omega)
    have hco := hic.o
    have hcl := hic.l
    have eb : bT Z = (validB (sO Z) (sL Z) && decide (cO (Z.f 0) < sO Z)) := by
      have : 0 < Z.len := by omega
      simp [bT, this]
    obtain ⟨t, et⟩ : ∃ t, (validB (sO Z) (sL Z) && decide (cO (Z.f 0) < sO Z)) = t := ⟨_, rfl⟩
    rw [bO, bL, eb, et]
    clear hq q0 q1 hz hic eb
    go_enter Try.func28, Try.ntmps28
    go_wp2_with fail
    refine (stmtPos_any p (sO Z) (sL Z) _ (HK.out _ (by go_grown)).2.2.1 (HK.out _ (by go_grown)).2.2.2.1 (HK.out _ (by go_grown)).2.2.2.2.2).mono ?_
    rintro e w1 ⟨rfl, hb1⟩
    have hS := (SlotW.start w).below hb1
    have HS := Lib.hid hS
    obtain ⟨⟨x, y, k0, k1⟩, f0, f1, hB, zz⟩ := hS
    clear hb1 c0 d0 d2 d3 z0 z1
    obtain ⟨c0, d0, d2, d3, z0, z1⟩ := HK.out _ hB
    go_wp2_with fail
    refine (comPos_any q 0 (cO (Z.f 0)) (cL (Z.f 0)) _ (HQ.out _ (by go_grown)).1 (HQ.out _ (by go_grown)).2.1 (HQ.out _ (by go_grown)).2.2).mono ?_
    rintro e w2 ⟨rfl, hb2⟩
    have HS2 := Lib.hid ((HS.out.alloc _).below hb2)
    obtain ⟨m0, m1, _, _, hB12⟩ := slot_after hb2
    have zm := World.block_lt_of_cell? _ _ m0
    simp only at zm
    clear hb2 hB hB12 c0 d0 d2 d3 z0 z1 k0 k1 f0 f1 zz HS
    go_wp2_with fail
    refine (after_any (sO Z) (sL Z) (cO (Z.f 0)) (cL (Z.f 0)) _ ho hl).mono ?_
    rintro e w3 ⟨rfl, hb3⟩
    have HS3 := Lib.hid ((HS2.out.alloc _).below hb3)
    have m0 := cell_below hb3 (cell_alloc m0)
    have m1 := cell_below hb3 (cell_alloc m1)
    obtain ⟨l0, l1, _, _, hB23⟩ := slot_after hb3
    have zl := World.block_lt_of_cell? _ _ l0
    have zm := World.block_lt_of_cell? _ _ m0
    simp only at zm zl
    clear hb3 HS2
    obtain ⟨⟨x, y, k0, k1⟩, f0, f1, hB, zz⟩ := HS3.out
    rw [et]
    cases t
    · go_wp2_with fail
      refine bodyPost_ret (v := .agg #[.int .u32 (sO Z), .int .u32 (sL Z)]) (by simp [results, Try.results28, go_sem, k0, k1, zz]) rfl ⟨by simp, ?_⟩
      exact SlotW.set HS3.out
    · go_wp2_with fail
      refine bodyPost_ret (v := .agg #[.int .u32 (cO (Z.f 0)), .int .u32 (cL (Z.f 0))]) (by simp [results, Try.results28, go_sem, k0, k1, zz]) rfl ⟨by simp, ?_⟩
      exact SlotW.set HS3.out
/-- no statements -/
theorem spos_none (S : Value) (hS : (∃ c, S = .slice none 0 c) ∨ ∃ q c, S = .slice (some q) 0 c) (A : Option Addr) (n : Nat) (f : Nat → RawC) (w : World) (h : IsHash w (.slice A n n) n f) :
    Calls Try.prog 28 #[S, .slice A n n] w fun e w' => e = .returned (.agg #[.int .u32 (if n = 0 then 0 else cO (f 0)), .int .u32 (if n = 0 then 0 else cL (f 0))]) ∧ Below w.heap.size w w' := by
  by_cases hz : n = 0
  · subst hz
    rw [if_pos rfl, if_pos rfl]
    rcases hS with ⟨c, rfl⟩ | ⟨q, c, rfl⟩
    all_goals
      go_enter Try.func28, Try.ntmps28
      go_wp2_with fail
      go_returns
      exact ⟨rfl, by go_grown⟩
  · rw [if_neg hz, if_neg hz]
    obtain ⟨g, rfl, hg⟩ : ∃ g : Nat, A = some ⟨g, 0, none⟩ ∧ ∀ i, i < n → HashAt w g i (f i) := by
      rcases h with ⟨_, h⟩ | ⟨g, e, h⟩
      · exact absurd h hz
      · exact ⟨g, by injection e, h⟩
    obtain ⟨q0, q1, _⟩ := hg 0 (by omega)
    rw [Nat.zero_mul] at q0 q1
    change w.cell? ⟨g, 0, none⟩ = some (.int .u32 (cO (f 0))) at q0
    change w.cell? ⟨g, 1, none⟩ = some (.int .u32 (cL (f 0))) at q1
    have HQ := Lib.hid (show ∀ W, Below w.heap.size w W → W.cell? ⟨g, 0, none⟩ = some (.int .u32 (cO (f 0))) ∧ W.cell? ⟨g, 1, none⟩ = some (.int .u32 (cL (f 0))) ∧ g < W.heap.size from fun W hW =>
      ⟨cell_below hW q0, cell_below hW q1, by have := World.block_lt_of_cell? _ _ (cell_below hW q0); simpa using this⟩)
    have hn : (0 : Int) < (n : Int) := by omega
    clear h hg q0 q1
    rcases hS with ⟨c, rfl⟩ | ⟨q, c, rfl⟩
    all_goals
      go_enter Try.func28, Try.ntmps28
      go_wp2_with fail
      refine (comPos_any g 0 (cO (f 0)) (cL (f 0)) _ (HQ.out _ (by go_grown)).1 (HQ.out _ (by go_grown)).2.1 (HQ.out _ (by go_grown)).2.2).mono ?_
      rintro e w1 ⟨rfl, hb1⟩
      have HS := Lib.hid ((SlotW.start w).below hb1)
      clear hb1
      obtain ⟨⟨x, y, k0, k1⟩, f0, f1, hB, zz⟩ := HS.out
      go_wp2_with fail
      refine bodyPost_ret (v := .agg #[.int .u32 (cO (f 0)), .int .u32 (cL (f 0))]) (by simp [results, Try.results28, go_sem, k0, k1, zz]) rfl ⟨rfl, ?_⟩
      first | exact HS.out.set | exact HS.out.drew.set
end Go.Proofs.Ytfeibikakhmecaa
