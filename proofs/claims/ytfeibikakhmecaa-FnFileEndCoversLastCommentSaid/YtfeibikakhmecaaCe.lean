/- Where lists of bare statements end; files. Conditions: the cells. -/
import Derived.Test.YtfeibikakhmecaaCp
namespace Go.Proofs.Ytfeibikakhmecaa
open Go.RowKit
set_option linter.unusedVariables false
set_option linter.unusedSimpArgs false

/-- an empty list of comments -/
def NoComs (L : Value) : Prop := (∃ c, L = .slice none 0 c) ∨ ∃ q c, L = .slice (some q) 0 c
theorem IsStmts.in_ {w : World} {a : Option Addr} {n c : Nat} {f : Nat → RawS} (h : IsStmts w a n c f) (hs : StmtsIn n f) : ∀ i, i < n → InS (f i) := by
  intro i hi
  rcases h with ⟨_, h, _⟩ | ⟨_, _, h, _⟩ | ⟨b, o, _, _, _, _, hx⟩
  · omega
  · omega
  · obtain ⟨_, _, _, _, ⟨q0, q1, q2⟩, hc⟩ := hx i hi
    obtain ⟨hl, hz⟩ := hs.2 i hi
    refine ⟨q0, q1, q2, hl, fun j hj => ?_⟩
    rcases hc with ⟨_, h, _⟩ | ⟨_, _, h, _⟩ | ⟨b, o, _, _, _, _, hx⟩
    · omega
    · omega
    · obtain ⟨_, p0, p1, p2, _⟩ := hx j hj
      exact ⟨p0, p1, p2, hz j hj⟩
theorem fin_gen {Q : Exit → Act → World → Prop} {e : Exit} {a : Act} {W : World} (R : World → Prop) (h : R W) (k : ∀ W', R W' → Q e a W') : Q e a W := k W h
/-- the slot, and a local variable's two cells at block b -/
def SlotM (w : World) (b : Nat) (x y : Value) (W : World) : Prop := SlotW w W ∧ W.cell? ⟨b, 0, none⟩ = some x ∧ W.cell? ⟨b, 1, none⟩ = some y
theorem SlotM.below {w U W : World} {b : Nat} {x y : Value} (h : SlotM w b x y U) (hb : Below U.heap.size U W) : SlotM w b x y W := ⟨h.1.below hb, cell_below hb h.2.1, cell_below hb h.2.2⟩
theorem SlotM.drew {w U : World} {b : Nat} {x y : Value} (h : SlotM w b x y U) : SlotM w b x y U.drew := h.below (below_drew _)
theorem SlotM.alloc {w U : World} {b : Nat} {x y : Value} (h : SlotM w b x y U) (o : Obj) : SlotM w b x y (U.alloc o) := h.below ((Below.refl _ _).alloc (Nat.le_refl _) _)
theorem SlotM.far2 {w U : World} {b c : Nat} {x y u v : Value} (h : SlotM w b x y U) (h1 : w.heap.size < c) (h2 : b < c) : SlotM w b x y ((U.setCell ⟨c, 0, none⟩ u).setCell ⟨c, 1, none⟩ v) := by
  obtain ⟨⟨⟨p, q, k0, k1⟩, f0, f1, hB, zz⟩, m0, m1⟩ := h
  have st : ∀ b' o z, b' ≠ c → U.cell? ⟨b', o, none⟩ = some z → ((U.setCell ⟨c, 0, none⟩ u).setCell ⟨c, 1, none⟩ v).cell? ⟨b', o, none⟩ = some z := fun b' o z hb h => by
    rw [World.cell?_setCell_other _ _ _ _ (fun e => by injection e with e; omega), World.cell?_setCell_other _ _ _ _ (fun e => by injection e with e; omega)]; exact h
  exact ⟨⟨⟨p, q, st _ _ _ (by omega) k0, st _ _ _ (by omega) k1⟩, by simpa [go_sem] using f0, by simpa [go_sem] using f1, (hB.setCell (p := ⟨c, 0, none⟩) (by show w.heap.size ≤ c; omega) _).setCell (p := ⟨c, 1, none⟩) (by show w.heap.size ≤ c; omega) _, by simpa using zz⟩, st _ _ _ (by omega) m0, st _ _ _ (by omega) m1⟩
theorem slot_after_drew {w w1 : World} {x y : Value} {t : TypeId} (hb1 : Below (w.alloc (.cells #[x, y] t)).drew.heap.size (w.alloc (.cells #[x, y] t)).drew w1) :
    w1.cell? ⟨w.heap.size, 0, none⟩ = some x ∧ w1.cell? ⟨w.heap.size, 1, none⟩ = some y ∧ w1.frozen? ⟨w.heap.size, 0, none⟩ = false ∧ w1.frozen? ⟨w.heap.size, 1, none⟩ = false ∧ Below w.heap.size w w1 := slot_after (t := t) (below_next (below_drew _) hb1)
theorem SlotM.bel {w U : World} {b : Nat} {x y : Value} (h : SlotM w b x y U) : Below w.heap.size w U := h.1.2.2.2.1
theorem keepM {w W : World} {b : Nat} {x y : Value} {F : World → Prop} (h : ∀ W, Below w.heap.size w W → F W) (hs : SlotM w b x y W) : Hid (SlotM w b x y W) ∧ F W := ⟨hs, h W hs.1.2.2.2.1⟩
set_option maxRecDepth 100000 in
set_option maxHeartbeats 2000000 in
theorem send_any (g o m c p gl : Nat) (Z : RawS) (L : Value) (w : World) (hL : NoComs L) (hm : 0 < m) (hmc : m ≤ 1048576) (c0 : w.cell? ⟨g, o + (m - 1), none⟩ = some (.pointer (some ⟨p, 0, none⟩))) (hb : BareAt gl w p Z) (hi : InS Z) :
    Calls Try.prog 27 #[.slice (some ⟨g, o, none⟩) m c, L] w fun e w' => e = .returned (.agg #[.int .u32 (eO Z), .int .u32 (eL Z)]) ∧ Below w.heap.size w w' := by
  obtain ⟨_, ⟨v, d0, hv, _⟩, d1, ⟨d2, d3⟩, ⟨d4, d5⟩, ⟨d6, d7, d8, d9⟩, d10⟩ := hb
  have hn' : (0 : Int) < (m : Int) := by omega
  have v1 : ((m : Int) - 1).toNat = m - 1 := by omega
  have v2 : (0 : Int) ≤ (m : Int) - 1 := by omega
  have v3 : (m : Int) - 1 < (m : Int) := by omega
  have z0 := World.block_lt_of_cell? _ _ c0
  have z1 := World.block_lt_of_cell? _ _ d0
  simp only at z0 z1
  have ho := hi.o
  have hl := hi.l
  change w.cell? ⟨p, 2, none⟩ = some (.int .u32 (sO Z)) at d2
  change w.cell? ⟨p, 3, none⟩ = some (.int .u32 (sL Z)) at d3
  obtain ⟨A, rfl⟩ : ∃ A : Option Addr, v = .slice A Z.len Z.len := by
    rcases hv with ⟨rfl, h⟩ | ⟨q, rfl, _⟩
    · rw [h]; exact ⟨none, rfl⟩
    · exact ⟨_, rfl⟩
  have HK := Lib.hid (show ∀ W, Below w.heap.size w W → (W.cell? ⟨g, o + (m - 1), none⟩ = some (.pointer (some ⟨p, 0, none⟩)) ∧ W.cell? ⟨p, 0, none⟩ = some (.slice A Z.len Z.len) ∧ g < W.heap.size ∧ p < W.heap.size) ∧ (W.cell? ⟨p, 1, none⟩ = some .nilIface ∧ W.cell? ⟨p, 2, none⟩ = some (.int .u32 (sO Z)) ∧ W.cell? ⟨p, 3, none⟩ = some (.int .u32 (sL Z)) ∧ W.cell? ⟨p, 4, none⟩ = some (.int .u32 0) ∧ W.cell? ⟨p, 5, none⟩ = some (.int .u32 0) ∧ W.cell? ⟨p, 6, none⟩ = some (.bool false) ∧ W.cell? ⟨p, 10, none⟩ = some (.slice none 0 0)) from fun W hW =>
    ⟨⟨cell_below hW c0, cell_below hW d0, Nat.lt_of_lt_of_le z0 hW.size, Nat.lt_of_lt_of_le z1 hW.size⟩, cell_below hW d1, cell_below hW d2, cell_below hW d3, cell_below hW d4, cell_below hW d5, cell_below hW d6, cell_below hW d10⟩)
  have HV := Lib.hid hv
  have HI := Lib.hid hi
  clear hi hv d1 d2 d3 d4 d5 d6 d7 d8 d9 d10
  have stE : ∀ W, Below w.heap.size w W → Calls Try.prog 31 #[.pointer (some ⟨p, 0, none⟩)] W fun e w' => e = .returned (.agg #[.int .u32 (sO Z), .int .u32 (sL Z)]) ∧ Below W.heap.size W w' := fun W hW => by
    obtain ⟨⟨_, _, _, hz⟩, k1, k2, k3, k4, k5, k6, k10⟩ := HK.out W hW
    exact stEnd_any p (sO Z) (sL Z) W k1 k2 k3 k4 k5 k6 k10 hz
  have HST := Lib.hid stE
  clear stE
  by_cases hz : Z.len = 0
  · have hT : eT Z = false := by simp [eT, hz]
    rw [eO, eL, hT]
    have hz' : (Z.len : Int) = 0 := by omega
    rcases hL with ⟨q, rfl⟩ | ⟨q, q', rfl⟩
    all_goals
      go_enter Try.func27, Try.ntmps27
      go_wp2_with fail
      refine (HST.out _ (by go_grown)).mono ?_
      rintro e w1 ⟨rfl, hb1⟩
      have hS := (SlotW.start w).below hb1
      have HS := Lib.hid hS
      obtain ⟨⟨x, y, k0, k1⟩, f0, f1, hB, zz⟩ := hS
      clear hb1 c0 d0 z0 z1
      obtain ⟨⟨c0, d0, z0, z1⟩, _⟩ := HK.out _ hB
      go_wp2_with fail
      refine bodyPost_ret (v := .agg #[.int .u32 (sO Z), .int .u32 (sL Z)]) (by simp [results, Try.results27, go_sem, k0, k1, zz]) rfl ⟨by simp, ?_⟩
      first | exact SlotW.set HS.out | (refine (SlotW.set HS.out).alloc ?_ _; simp; omega)
  · obtain ⟨q, rfl, hq⟩ : ∃ q : Nat, A = some ⟨q, 0, none⟩ ∧ ∀ i, i < Z.len → HashAt w q i (Z.f i) := by
      rcases HV.out with ⟨_, h⟩ | ⟨q, e, h⟩
      · exact absurd h hz
      · exact ⟨q, by injection e, h⟩
    obtain ⟨Y, eY⟩ : ∃ Y, Y = Z.f (Z.len - 1) := ⟨_, rfl⟩
    obtain ⟨q0, q1, q2⟩ := hq (Z.len - 1) (by omega)
    have hic := HI.out.2.2.2.2 (Z.len - 1) (by omega)
    rw [← eY] at q0 q1 q2 hic
    change w.cell? ⟨q, (Z.len - 1) * 3, none⟩ = some (.int .u32 (cO Y)) at q0
    change w.cell? ⟨q, (Z.len - 1) * 3 + 1, none⟩ = some (.int .u32 (cL Y)) at q1
    have cmE : ∀ W, Below w.heap.size w W → Calls Try.prog 24 #[.pointer (some ⟨q, (Z.len - 1) * 3, none⟩)] W fun e w' => e = .returned (.agg #[.int .u32 (ceO Y), .int .u32 (ceL Y)]) ∧ Below W.heap.size W w' := fun W hW =>
      comEnd_any q _ (cO Y) (cL Y) Y.s W hic.o hic.l hic.2.2.2 (cell_below hW q0) (cell_below hW q1) (cell_below hW q2) (by have := World.block_lt_of_cell? _ _ (cell_below hW q0); simpa using this)
    have HCM := Lib.hid cmE
    have hco := hic.eo
    have hcl := hic.el
    have hz' : (0 : Int) < (Z.len : Int) := by omega
    have hzl := HI.out.2.2.2.1
    have u1 : ((Z.len : Int) - 1).toNat = Z.len - 1 := by omega
    have u2 : (0 : Int) ≤ (Z.len : Int) - 1 := by omega
    have u3 : (Z.len : Int) - 1 < (Z.len : Int) := by omega
    have u4 : (1 : Int) ≤ (Z.len : Int) := by omega
    have u5 := IntWalk.i64_in ((Z.len : Int) - 1) (by omega)
    have eb : eT Z = (validB (ceO Y) (ceL Y) && decide (sO Z < ceO Y)) := by
      have : 0 < Z.len := by omega
      simp [eT, this, eY]
    obtain ⟨t, et⟩ : ∃ t, (validB (ceO Y) (ceL Y) && decide (sO Z < ceO Y)) = t := ⟨_, rfl⟩
    rw [eO, eL, eb, et, ← eY]
    clear hq q0 q1 q2 hz hic eb eY cmE
    rcases hL with ⟨r, rfl⟩ | ⟨r, r', rfl⟩
    all_goals
      go_enter Try.func27, Try.ntmps27
      go_wp2_with fail
      refine (HST.out _ (by go_grown)).mono ?_
      rintro e w1 ⟨rfl, hb1⟩
      have hS := (SlotW.start w).below hb1
      have HS := Lib.hid hS
      obtain ⟨⟨x, y, k0, k1⟩, f0, f1, hB, zz⟩ := hS
      clear hb1 c0 d0 z0 z1
      obtain ⟨⟨c0, d0, z0, z1⟩, _⟩ := HK.out _ hB
      go_wp2_with fail
      refine wp_gen (fun V => SlotM w w1.heap.size (.int .u32 (sO Z)) (.int .u32 (sL Z)) V) ⟨HS.out.alloc _, by simp [go_sem], by simp [go_sem]⟩ ?_
      intro V hV
      have HM := Lib.hid hV
      have HF := Lib.hid (show ∀ W, Below w.heap.size w W → W.cell? ⟨p, 0, none⟩ = some (.slice (some ⟨q, 0, none⟩) Z.len Z.len) ∧ p < W.heap.size from fun W hW => ⟨(HK.out W hW).1.2.1, (HK.out W hW).1.2.2.2⟩)
      clear hV c0 d0 z0 z1 k0 k1 f0 f1 zz hB
      obtain ⟨d0, z1⟩ := HF.out _ HM.out.1.2.2.2.1
      obtain ⟨⟨⟨x, y, k0, k1⟩, f0, f1, hB, zz⟩, m0, m1⟩ := HM.out
      have yV1 := zz
      have yV2 := World.block_lt_of_cell? _ _ m0
      simp only at yV2
      go_region_held3 (fun W9 => Hid (SlotM w w1.heap.size (.int .u32 (sO Z)) (.int .u32 (sL Z)) W9) ∧ W9.cell? ⟨p, 0, none⟩ = some (.slice (some ⟨q, 0, none⟩) Z.len Z.len) ∧ p < W9.heap.size)
        ((refine keepM HF.out ?_; first | exact HM.out | exact HM.out.drew | exact HM.out.alloc _ | exact HM.out.drew.alloc _ | exact (HM.out.alloc _).drew | exact HM.out.far2 yV1 yV2 | exact HM.out.drew.far2 yV1 yV2))
        (first | (go_at_call 24; refine (HCM.out _ (SlotM.bel (Hid.out (And.left (by assumption))))).mono ?_; rintro e wN ⟨rfl, hbN⟩; have HM := Lib.hid (SlotM.below (Hid.out (And.left (by assumption))) hbN); (first | (have hq := slot_after hbN; obtain ⟨l0, l1, g0, g1, _⟩ := hq; change wN.cell? ⟨V.heap.size, 0, none⟩ = _ at l0; change wN.cell? ⟨V.heap.size, 1, none⟩ = _ at l1; change wN.frozen? ⟨V.heap.size, 0, none⟩ = _ at g0; change wN.frozen? ⟨V.heap.size, 1, none⟩ = _ at g1) | (have hq := slot_after_drew hbN; obtain ⟨l0, l1, g0, g1, _⟩ := hq; change wN.cell? ⟨V.heap.size, 0, none⟩ = _ at l0; change wN.cell? ⟨V.heap.size, 1, none⟩ = _ at l1; change wN.frozen? ⟨V.heap.size, 0, none⟩ = _ at g0; change wN.frozen? ⟨V.heap.size, 1, none⟩ = _ at g1) | skip); clear hbN; obtain ⟨d0, z1⟩ := HF.out _ HM.out.1.2.2.2.1; obtain ⟨⟨⟨x, y, k0, k1⟩, f0, f1, hB, zz⟩, m0, m1⟩ := HM.out))
      all_goals
        first
          | (refine fin_gen (fun V2 => SlotM w w1.heap.size (.int .u32 (sO Z)) (.int .u32 (sL Z)) V2 ∧ V2.cell? ⟨V.heap.size, 0, none⟩ = some (.int .u32 (ceO Y)) ∧ V2.cell? ⟨V.heap.size, 1, none⟩ = some (.int .u32 (ceL Y))) ⟨HM.out.far2 yV1 yV2, ?_, ?_⟩ ?_; · simp [go_sem, l0]
             · simp [go_sem, l1])
          | (refine fin_gen (fun V2 => SlotM w w1.heap.size (.int .u32 (sO Z)) (.int .u32 (sL Z)) V2 ∧ V2.cell? ⟨wN.heap.size, 0, none⟩ = some (.int .u32 (ceO Y)) ∧ V2.cell? ⟨wN.heap.size, 1, none⟩ = some (.int .u32 (ceL Y))) ⟨HM.out.alloc _, ?_, ?_⟩ ?_; · simp [go_sem]
             · simp [go_sem])
        rintro V2 ⟨hM2, l0, l1⟩
        have HM2 := Lib.hid hM2
        obtain ⟨⟨⟨x, y, k0, k1⟩, f0, f1, hB, zz⟩, m0, m1⟩ := hM2
        have zm := World.block_lt_of_cell? _ _ m0
        have zl := World.block_lt_of_cell? _ _ l0
        simp only at zm zl
        go_wp2_with fail
        refine (after_any (ceO Y) (ceL Y) (sO Z) (sL Z) _ hco hcl).mono ?_
        rintro e w3 ⟨rfl, hb3⟩
        have HS3 := Lib.hid (HM2.out.below hb3)
        have l0 := cell_below hb3 l0
        have l1 := cell_below hb3 l1
        clear hb3 HM2 k0 k1 f0 f1 hB zz m0 m1 zm zl
        have zl := World.block_lt_of_cell? _ _ l0
        obtain ⟨⟨⟨x, y, k0, k1⟩, f0, f1, hB, zz⟩, m0, m1⟩ := HS3.out
        have zm := World.block_lt_of_cell? _ _ m0
        simp only at zm zl
        rw [et]
        cases t
        · go_wp2_with fail
          refine bodyPost_ret (v := .agg #[.int .u32 (sO Z), .int .u32 (sL Z)]) (by simp [results, Try.results27, go_sem, k0, k1, zz]) rfl ⟨by simp, ?_⟩
          exact SlotW.set HS3.out.1
        · go_wp2_with fail
          refine bodyPost_ret (v := .agg #[.int .u32 (ceO Y), .int .u32 (ceL Y)]) (by simp [results, Try.results27, go_sem, k0, k1, zz]) rfl ⟨by simp, ?_⟩
          exact SlotW.set HS3.out.1
set_option maxHeartbeats 1000000 in
theorem zsend_any (g o m c p gl : Nat) (Z : RawS) (L : Value) (w : World) (hL : NoComs L) (hm : 0 < m) (hmc : m ≤ 1048576) (c0 : w.cell? ⟨g, o + (m - 1), none⟩ = some (.pointer (some ⟨p, 0, none⟩))) (hb : BareAt gl w p Z) (hi : InS Z) :
    Calls Try.prog 10 #[.slice (some ⟨g, o, none⟩) m c, L] w fun e w' => e = .returned (.agg #[.int .u32 (eO Z), .int .u32 (eL Z)]) ∧ Below w.heap.size w w' := by
  have h := fun W (hW : Below w.heap.size w W) => send_any g o m c p gl Z L W hL hm hmc (cell_below hW c0) (hb.keep fun _ _ _ _ h => cell_below hW h) hi
  have HH := Lib.hid h
  clear h c0 hb hi hL
  go_enter Try.func10, Try.ntmps10
  go_wp2_with fail
  refine (HH.out _ (by go_grown)).mono ?_
  rintro e w1 ⟨rfl, hb1⟩
  have HS := Lib.hid ((SlotW.start w).below hb1)
  clear hb1
  obtain ⟨⟨x, y, k0, k1⟩, f0, f1, hB, zz⟩ := HS.out
  go_wp2_with fail
  refine bodyPost_ret (v := .agg #[.int .u32 (eO Z), .int .u32 (eL Z)]) (by simp [results, Try.results10, go_sem, k0, k1, zz]) rfl ⟨rfl, ?_⟩
  first | exact HS.out.set | exact HS.out.drew.set
set_option maxRecDepth 100000 in
set_option maxHeartbeats 1000000 in
theorem zs_any (a : Option Addr) (len cap : Nat) (f : Nat → RawS) (w : World) (h : IsStmts w a len cap f) (h0 : 0 < len) (hs : StmtsIn len f) :
    Calls Try.prog 9 #[.slice a len cap] w fun e w' => ∃ g : Nat, e = .returned (.slice (some ⟨g, 0, none⟩) len len) ∧ IsBare w' (.slice (some ⟨g, 0, none⟩) len len) len f ∧ Below w.heap.size w w' := by
  have ha : ∃ x, a = some x := by
    rcases h with ⟨_, h, _⟩ | ⟨x, h, _⟩ | ⟨b, o, h, _⟩
    · omega
    · exact ⟨x, h⟩
    · exact ⟨_, h⟩
  obtain ⟨x, rfl⟩ := ha
  refine (zs_some x len cap f w h hs.1 (fun i hi => (hs.2 i hi).1)).mono ?_
  rintro e w' ⟨v, rfl, hv, hb⟩
  rcases hv with ⟨_, h⟩ | ⟨g, rfl, hg⟩
  · omega
  · exact ⟨g, rfl, .inr ⟨g, rfl, hg⟩, hb⟩
theorem IsBare.at {w : World} {g n : Nat} {f : Nat → RawS} (h : IsBare w (.slice (some ⟨g, 0, none⟩) n n) n f) (i : Nat) (hi : i < n) : ∃ p : Nat, w.cell? ⟨g, i, none⟩ = some (.pointer (some ⟨p, 0, none⟩)) ∧ BareAt g w p (f i) := by
  rcases h with ⟨_, h⟩ | ⟨g', e, h⟩
  · omega
  · obtain rfl : g = g' := by injection e with e; injection e with e; injection e with e
    exact h i hi
end Go.Proofs.Ytfeibikakhmecaa
