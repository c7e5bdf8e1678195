/- What zzStmts makes: a row of pointers to statements. Conditions: the cells. -/
import Derived.Test.YtfeibikakhmecaaCc
namespace Go.Proofs.Ytfeibikakhmecaa
open Go.RowKit
set_option linter.unusedVariables false

set_option maxRecDepth 100000 in
set_option maxHeartbeats 1000000 in
theorem zc_any (a : Option Addr) (len cap : Nat) (f : Nat → RawC) (w : World) (h : IsComs w a len cap f) (hn : len ≤ 1048576) :
    Calls Try.prog 12 #[.slice a len cap] w fun e w' => ∃ A : Option Addr, e = .returned (.slice A len len) ∧ IsHash w' (.slice A len len) len f ∧ (∀ b n m, Value.slice A len len = .slice (some ⟨b, 0, none⟩) n m → w.heap.size ≤ b) ∧ Below w.heap.size w w' := by
  cases a with
  | some x =>
    refine (zc_some x len cap f w h hn).mono ?_
    rintro e w' ⟨v, rfl, hv, hvb, hb⟩
    have hf : ∃ A : Option Addr, v = .slice A len len := by
      rcases hv with ⟨rfl, rfl⟩ | ⟨g, rfl, _⟩
      · exact ⟨none, rfl⟩
      · exact ⟨_, rfl⟩
    obtain ⟨A, rfl⟩ := hf
    exact ⟨A, rfl, hv, hvb, hb⟩
  | none =>
    obtain ⟨rfl, rfl⟩ : len = 0 ∧ cap = 0 := by
      rcases h with ⟨_, h1, h2⟩ | ⟨_, h1, _⟩ | ⟨_, _, h1, _⟩
      · exact ⟨h1, h2⟩
      · exact absurd h1 (by simp)
      · exact absurd h1 (by simp)
    clear h
    have hnil := fun (W : World) => Lib.run_eql_slice_nil (P := Try.prog) W 32 40 none 0 0 0 0 Try.underlying32
    go_enter Try.func12, Try.ntmps12
    go_wp2_with fail
    go_ret
    exact ⟨none, rfl, .inl ⟨rfl, rfl⟩, fun b n m e => by simp at e, Below.refl _ _⟩
/-- a bare statement in memory, all its blocks above g -/
def BareAt (g : Nat) (w : World) (p : Nat) (z : RawS) : Prop :=
  g < p ∧ (∃ v, w.cell? ⟨p, 0, none⟩ = some v ∧ IsHash w v z.len z.f ∧ ∀ b n m, v = .slice (some ⟨b, 0, none⟩) n m → g < b) ∧ w.cell? ⟨p, 1, none⟩ = some .nilIface ∧ (w.cell? ⟨p, 2, none⟩ = some (.int .u32 (offCap z.o)) ∧ w.cell? ⟨p, 3, none⟩ = some (.int .u32 (lcOf z.l z.c))) ∧
    (w.cell? ⟨p, 4, none⟩ = some (.int .u32 0) ∧ w.cell? ⟨p, 5, none⟩ = some (.int .u32 0)) ∧ (w.cell? ⟨p, 6, none⟩ = some (.bool false) ∧ w.cell? ⟨p, 7, none⟩ = some (.bool false) ∧ w.cell? ⟨p, 8, none⟩ = some (.bool false) ∧ w.cell? ⟨p, 9, none⟩ = some (.bool false)) ∧ w.cell? ⟨p, 10, none⟩ = some (.slice none 0 0)
theorem IsHash.keep {W w : World} {v : Value} {n : Nat} {f : Nat → RawC} {g : Nat} (h : IsHash W v n f) (hv : ∀ b n m, v = .slice (some ⟨b, 0, none⟩) n m → g < b) (hk : ∀ b o u, g < b → W.cell? ⟨b, o, none⟩ = some u → w.cell? ⟨b, o, none⟩ = some u) : IsHash w v n f := by
  rcases h with h | ⟨b, e, h⟩
  · exact .inl h
  · have hb := hv b n n e
    exact .inr ⟨b, e, fun i hi => ⟨hk _ _ _ hb (h i hi).1, hk _ _ _ hb (h i hi).2.1, hk _ _ _ hb (h i hi).2.2⟩⟩
theorem BareAt.keep {g : Nat} {W w : World} {p : Nat} {z : RawS} (h : BareAt g W p z) (hk : ∀ b o u, g < b → W.cell? ⟨b, o, none⟩ = some u → w.cell? ⟨b, o, none⟩ = some u) : BareAt g w p z := by
  obtain ⟨hp, ⟨v, h0, h1, hv⟩, h2, ⟨h3, h4⟩, ⟨h5, h6⟩, ⟨h7, h8, h9, h10⟩, h11⟩ := h
  exact ⟨hp, ⟨v, hk _ _ _ hp h0, h1.keep hv hk, hv⟩, hk _ _ _ hp h2, ⟨hk _ _ _ hp h3, hk _ _ _ hp h4⟩, ⟨hk _ _ _ hp h5, hk _ _ _ hp h6⟩, ⟨hk _ _ _ hp h7, hk _ _ _ hp h8, hk _ _ _ hp h9, hk _ _ _ hp h10⟩, hk _ _ _ hp h11⟩
/-- a row of bare statements -/
def IsBare (w : World) (v : Value) (n : Nat) (f : Nat → RawS) : Prop :=
  (v = .slice none 0 0 ∧ n = 0) ∨ ∃ g : Nat, v = .slice (some ⟨g, 0, none⟩) n n ∧ ∀ i, i < n → ∃ p : Nat, w.cell? ⟨g, i, none⟩ = some (.pointer (some ⟨p, 0, none⟩)) ∧ BareAt g w p (f i)
theorem IsBare.below {W w : World} {v : Value} {n : Nat} {f : Nat → RawS} (h : IsBare W v n f) (hb : Below W.heap.size W w) : IsBare w v n f := by
  rcases h with h | ⟨g, e, h⟩
  · exact .inl h
  · exact .inr ⟨g, e, fun i hi => let ⟨p, h1, h2⟩ := h i hi; ⟨p, cell_below hb h1, h2.keep fun _ _ _ _ h => cell_below hb h⟩⟩
/-- the row after k rounds -/
def FillS (g n : Nat) (f : Nat → RawS) (w0 : World) (k : Nat) (wr : World) : Prop :=
  (∀ i, i < k → ∃ p : Nat, wr.cell? ⟨g, i, none⟩ = some (.pointer (some ⟨p, 0, none⟩)) ∧ BareAt g wr p (f i)) ∧ (∀ i, k ≤ i → i < n → wr.cell? ⟨g, i, none⟩ = some (.pointer none)) ∧ (∀ j, wr.frozen? ⟨g, j, none⟩ = false) ∧ Below g w0 wr ∧ g < wr.heap.size
theorem fillS_start {w0 : World} {g n : Nat} {f : Nat → RawS} {C : Array Value} (hg : w0.heap.size = g) (hC : C.toList = List.replicate n (.pointer none)) : FillS g n f w0 0 (w0.alloc (.cells C 57)) := by
  subst hg
  refine ⟨fun i hi => absurd hi (by omega), fun i _ hi => ?_, fun j => by simp [go_sem], (Below.refl _ _).alloc (Nat.le_refl _) _, by simp⟩
  have : C[i]? = some (.pointer none) := by
    rw [← Array.getElem?_toList, hC]
    simp [hi]
  rw [← this]
  simp [go_sem]
/-- .. in the midst of round k -/
def MidS (g n : Nat) (f : Nat → RawS) (w0 : World) (k : Nat) (wr : World) : Prop :=
  (∀ i, i < k → ∃ p : Nat, wr.cell? ⟨g, i, none⟩ = some (.pointer (some ⟨p, 0, none⟩)) ∧ BareAt g wr p (f i)) ∧ (∀ i, k < i → i < n → wr.cell? ⟨g, i, none⟩ = some (.pointer none)) ∧ (∃ e, wr.cell? ⟨g, k, none⟩ = some e) ∧ (∀ j, wr.frozen? ⟨g, j, none⟩ = false) ∧ Below g w0 wr ∧ g < wr.heap.size
theorem FillS.mid {w0 wr : World} {g n k : Nat} {f : Nat → RawS} (h : FillS g n f w0 k wr) (hk : k < n) : MidS g n f w0 k wr :=
  ⟨h.1, fun i hi hn => h.2.1 i (by omega) hn, ⟨_, h.2.1 k (Nat.le_refl _) hk⟩, h.2.2⟩
theorem MidS.below {w0 wr w' : World} {g n k : Nat} {f : Nat → RawS} (h : MidS g n f w0 k wr) (hb : Below wr.heap.size wr w') : MidS g n f w0 k w' := by
  obtain ⟨h1, h2, ⟨e, r⟩, h3, h4, h5⟩ := h
  exact ⟨fun i hi => let ⟨p, q1, q2⟩ := h1 i hi; ⟨p, cell_below hb q1, q2.keep fun _ _ _ _ h => cell_below hb h⟩, fun i hk hi => cell_below hb (h2 i hk hi), ⟨e, cell_below hb r⟩,
    fun j => by rw [hb.frozen (p := ⟨g, j, none⟩) h5]; exact h3 j, h4.trans (hb.mono (Nat.le_of_lt h5)), Nat.lt_of_lt_of_le h5 hb.size⟩
theorem MidS.bel {w0 wr : World} {g n k : Nat} {f : Nat → RawS} (h : MidS g n f w0 k wr) : Below g w0 wr := h.2.2.2.2.1
theorem MidS.gt {w0 wr : World} {g n k : Nat} {f : Nat → RawS} (h : MidS g n f w0 k wr) : g < wr.heap.size := h.2.2.2.2.2
theorem MidS.drew {w0 wr : World} {g n k : Nat} {f : Nat → RawS} (h : MidS g n f w0 k wr) : MidS g n f w0 k wr.drew := h.below (below_drew _)
theorem MidS.alloc {w0 wr : World} {g n k : Nat} {f : Nat → RawS} (h : MidS g n f w0 k wr) (o : Obj) : MidS g n f w0 k (wr.alloc o) := h.below ((Below.refl _ _).alloc (Nat.le_refl _) _)
theorem set_far {g k b o : Nat} {wr : World} {v x : Value} (hb : b ≠ g) (h : wr.cell? ⟨b, o, none⟩ = some v) : (wr.setCell ⟨g, k, none⟩ x).cell? ⟨b, o, none⟩ = some v := by
  rw [World.cell?_setCell_other _ _ _ _ (fun e => by injection e with e; omega)]; exact h
theorem MidS.stored {w0 wr : World} {g n k : Nat} {f : Nat → RawS} (x : Value) (h : MidS g n f w0 k wr) : MidS g n f w0 k (wr.setCell ⟨g, k, none⟩ x) := by
  obtain ⟨h1, h2, ⟨e, r⟩, h3, h4, h5⟩ := h
  refine ⟨fun i hi => ?_, fun i hki hi => ?_, ⟨x, by simp [go_sem, r]⟩, fun j => by have := h3 j; simpa [go_sem] using this, h4.setCell (Nat.le_refl _) _, by simpa using h5⟩
  · obtain ⟨p, q1, q2⟩ := h1 i hi
    refine ⟨p, ?_, q2.keep fun b o u hb h => set_far (by omega) h⟩
    rw [World.cell?_setCell_other _ _ _ _ (fun e => by injection e with _ e; omega)]; exact q1
  · rw [World.cell?_setCell_other _ _ _ _ (fun e => by injection e with _ e; omega)]; exact h2 i hki hi
theorem MidS.step {w0 wr : World} {g n k : Nat} {f : Nat → RawS} {z : RawS} {v : Value} (h : MidS g n f w0 k wr) (hz : z = f k) (hv : IsHash wr v z.len z.f) (hvb : ∀ b n m, v = .slice (some ⟨b, 0, none⟩) n m → g < b) :
    FillS g n f w0 (k + 1) ((wr.setCell ⟨g, k, none⟩ (.pointer (some ⟨wr.heap.size, 0, none⟩))).alloc (.cells #[v, .nilIface, .int .u32 (offCap z.o), .int .u32 (lcOf z.l z.c), .int .u32 0, .int .u32 0, .bool false, .bool false, .bool false, .bool false, .slice none 0 0] 62)) := by
  have hs := (h.stored (.pointer (some ⟨wr.heap.size, 0, none⟩))).alloc (.cells #[v, .nilIface, .int .u32 (offCap z.o), .int .u32 (lcOf z.l z.c), .int .u32 0, .int .u32 0, .bool false, .bool false, .bool false, .bool false, .slice none 0 0] 62)
  obtain ⟨h1, h2, _, h3, h4, h5⟩ := hs
  obtain ⟨_, _, ⟨e, r⟩, _, _, hgs⟩ := h
  refine ⟨fun i hi => ?_, fun i hki hi => h2 i (by omega) hi, h3, h4, h5⟩
  by_cases e : i = k
  · subst e
    refine ⟨wr.heap.size, by simp [go_sem, r, hgs], hgs, ⟨v, by simp [go_sem], ?_, hvb⟩, by simp [go_sem], ⟨?_, ?_⟩, ⟨by simp [go_sem], by simp [go_sem]⟩, ⟨by simp [go_sem], by simp [go_sem], by simp [go_sem], by simp [go_sem]⟩, by simp [go_sem]⟩
    · rw [← hz]
      exact hv.keep hvb fun b o u hb h => cell_alloc (set_far (by omega) h)
    · rw [← hz]; simp [go_sem]
    · rw [← hz]; simp [go_sem]
  · exact h1 i (by omega)
theorem infoSt : (Try.prog.info? 57).map (fun i => (i.zero, i.size, i.bytes)) = some (some (.pointer none), 1, 8) := by kernel_rfl
theorem mk_sts (n : Nat) (hn : n ≤ 1048576) : ∀ W : World, (Instr.makeSlice 25 (.int .i64 (n : Int)) (.int .i64 (n : Int))).run Try.prog W = .ok (.slice (some ⟨W.heap.size, 0, none⟩) n n) (W.alloc (.cells (madeCells (Value.pointer none).cells (n * 1)) 57)) := fun W => by
  obtain ⟨i0, hi, hz0, hz1, hz2⟩ := info_parts infoSt
  have h := run_make_rowN (P := Try.prog) 25 57 i0 (.pointer none) Try.underlying25 hi hz0 .i64 .i64 n n (Nat.le_refl _) (by rw [hz2]; omega) (by omega) W
  rw [hz1] at h
  exact h
theorem IsComs.below0 {W w : World} {B : Nat} {a : Option Addr} {n c : Nat} {f : Nat → RawC} (h : IsComs W a n c f) (hb : Below W.heap.size W w) : IsComs w a n c f := h.below hb
set_option maxRecDepth 100000 in
set_option maxHeartbeats 4000000 in
theorem zs_some (x : Addr) (len cap : Nat) (f : Nat → RawS) (w : World) (h : IsStmts w (some x) len cap f) (hn : len ≤ 1048576) (hl : ∀ i, i < len → (f i).len ≤ 1048576) :
    Calls Try.prog 9 #[.slice (some x) len cap] w fun e w' => ∃ v, e = .returned v ∧ IsBare w' v len f ∧ Below w.heap.size w w' := by
  have H := Lib.hid h
  have HL := Lib.hid hl
  clear h hl
  have hnil := fun (W : World) => Lib.run_eql_slice_nil (P := Try.prog) W 22 51 (some x) len cap 0 0 Try.underlying22
  have hmk := mk_sts len hn
  go_enter Try.func9, Try.ntmps9
  go_wp2_with fail
  refine wp_gen (fun V => FillS w.heap.size len f w 0 V) (fillS_start rfl (by first | exact toList_madeCells_one _ _ | simp [toList_madeCells_one])) ?_
  intro V hF
  have HF := Lib.hid hF
  clear hF hmk hnil
  go_loopw [12] (fun i wr => ∃ k : Nat, k ≤ len ∧ i = .int .i64 k ∧ Hid (FillS w.heap.size len f w k wr)) (fun i _ => len - (intOf i).toNat)
  case atStart => exact ⟨0, Nat.zero_le _, rfl, HF⟩
  case round =>
    obtain ⟨k, hk, rfl, HR⟩ := hrel
    clear HF
    by_cases hlt : k < len
    · rcases H.out with ⟨h, _, _⟩ | ⟨_, _, h, _⟩ | ⟨b, o, hx, _, _, _, hc⟩
      · exact absurd h (by simp)
      · exact absurd hlt (by omega)
      obtain rfl : x = ⟨b, o, none⟩ := by injection hx
      obtain ⟨Z, eZ⟩ : ∃ Z, Z = f k := ⟨_, rfl⟩
      have EZ := Lib.hid eZ
      obtain ⟨k0, k1, k2, k3, ⟨q0, q1, q2⟩, hcs⟩ := hc k hlt
      have hln := HL.out k hlt
      rw [← eZ] at k0 k1 k2 k3 q0 q1 q2 hcs hln
      have HCS := Lib.hid hcs
      have z3 : b < w.heap.size := by have := World.block_lt_of_cell? _ _ k0; simpa using this
      have hbg : b ≠ w.heap.size := by omega
      have HC := Lib.hid (show ∀ W, MidS w.heap.size len f w k W → (W.cell? ⟨b, o + k * 4, none⟩ = some (.int .u32 Z.o) ∧ W.cell? ⟨b, o + k * 4 + 1, none⟩ = some (.int .u32 Z.l) ∧ W.cell? ⟨b, o + k * 4 + 2, none⟩ = some (.int .u32 Z.c) ∧ W.cell? ⟨b, o + k * 4 + 3, none⟩ = some (.slice Z.a Z.len Z.cap)) ∧ b < W.heap.size from fun W hW =>
        ⟨⟨cell_below hW.2.2.2.2.1 k0, cell_below hW.2.2.2.2.1 k1, cell_below hW.2.2.2.2.1 k2, cell_below hW.2.2.2.2.1 k3⟩, Nat.lt_of_lt_of_le z3 hW.2.2.2.2.1.size⟩)
      have HM := Lib.hid (HR.out.mid hlt)
      clear hc hx eZ hcs HR k0 k1 k2 k3
      obtain ⟨⟨c0, c1, c2, c3⟩, z1⟩ := HC.out _ HM.out
      obtain ⟨e0, r0⟩ := HM.out.2.2.1
      have f0 := HM.out.2.2.2.1 k
      have z0 := HM.out.2.2.2.2.2
      go_wp2_with fail
      go_region_held3 (fun W9 => Hid (MidS w.heap.size len f w k W9) ∧ W9.cell? ⟨b, o + k * 4, none⟩ = some (.int .u32 Z.o) ∧ W9.cell? ⟨b, o + k * 4 + 1, none⟩ = some (.int .u32 Z.l) ∧ W9.cell? ⟨b, o + k * 4 + 2, none⟩ = some (.int .u32 Z.c) ∧ W9.cell? ⟨b, o + k * 4 + 3, none⟩ = some (.slice Z.a Z.len Z.cap) ∧ b < W9.heap.size ∧ w.heap.size < W9.heap.size)
        (first
          | exact ⟨HM, c0, c1, c2, c3, z1, z0⟩
          | exact ⟨Lib.hid HM.out.drew, c0, c1, c2, c3, z1, z0⟩
          | exact ⟨Lib.hid (HM.out.alloc _), cell_alloc c0, cell_alloc c1, cell_alloc c2, cell_alloc c3, Nat.lt_of_lt_of_eq (Nat.lt_succ_of_lt z1) (by simp), Nat.lt_of_lt_of_eq (Nat.lt_succ_of_lt z0) (by simp)⟩
          | exact ⟨Lib.hid (HM.out.drew.alloc _), cell_alloc c0, cell_alloc c1, cell_alloc c2, cell_alloc c3, Nat.lt_of_lt_of_eq (Nat.lt_succ_of_lt z1) (by simp), Nat.lt_of_lt_of_eq (Nat.lt_succ_of_lt z0) (by simp)⟩
          | exact ⟨Lib.hid ((HM.out.stored _).alloc _), cell_alloc (set_far hbg c0), cell_alloc (set_far hbg c1), cell_alloc (set_far hbg c2), cell_alloc (set_far hbg c3), Nat.lt_of_lt_of_eq (Nat.lt_succ_of_lt z1) (by simp), Nat.lt_of_lt_of_eq (Nat.lt_succ_of_lt z0) (by simp)⟩
          | exact ⟨Lib.hid ((HM.out.drew.stored _).alloc _), cell_alloc (set_far hbg c0), cell_alloc (set_far hbg c1), cell_alloc (set_far hbg c2), cell_alloc (set_far hbg c3), Nat.lt_of_lt_of_eq (Nat.lt_succ_of_lt z1) (by simp), Nat.lt_of_lt_of_eq (Nat.lt_succ_of_lt z0) (by simp)⟩)
        (first
          | (go_at_call 15; refine (zpos_any _ _ _ _ q0 q1 q2).mono ?_; rintro e wN ⟨rfl, hbN⟩; have HM := Lib.hid (MidS.below (Hid.out (And.left (by assumption))) hbN); clear hbN; obtain ⟨⟨c0, c1, c2, c3⟩, z1⟩ := HC.out _ HM.out; obtain ⟨e0, r0⟩ := HM.out.2.2.1; have f0 := HM.out.2.2.2.1 k; have z0 := HM.out.2.2.2.2.2)
          | (go_at_call 12; refine (zc_any _ _ _ _ _ (HCS.out.below (Below.mono (MidS.bel (Hid.out (And.left (by assumption)))) (Nat.le_refl _))) hln).mono ?_; rintro e wN ⟨A, rfl, hv, hvb, hbN⟩; have HVB := Lib.hid (show ∀ b n m, Value.slice A Z.len Z.len = .slice (some ⟨b, 0, none⟩) n m → w.heap.size < b from fun b n m e => Nat.lt_of_lt_of_le (MidS.gt (Hid.out (And.left (by assumption)))) (hvb b n m e)); have HV := Lib.hid hv; have HM := Lib.hid (MidS.below (Hid.out (And.left (by assumption))) hbN); clear hbN hv hvb; obtain ⟨⟨c0, c1, c2, c3⟩, z1⟩ := HC.out _ HM.out; obtain ⟨e0, r0⟩ := HM.out.2.2.1; have f0 := HM.out.2.2.2.1 k; have z0 := HM.out.2.2.2.2.2))
      all_goals
        go_wp2_with fail
        go_roundw
        case rel =>
          skip
          first
            | exact ⟨k + 1, by omega, by go_num, Lib.hid (MidS.step HM.out EZ.out HV.out HVB.out)⟩
            | exact ⟨k + 1, by omega, by go_num, Lib.hid (MidS.step HM.out.drew EZ.out HV.out HVB.out)⟩
            | ((repeat apply Exists.intro); exact ⟨⟨k + 1, by omega, by go_num, Lib.hid (MidS.step HM.out EZ.out HV.out HVB.out)⟩, rfl⟩)
            | ((repeat apply Exists.intro); exact ⟨⟨k + 1, by omega, by go_num, Lib.hid (MidS.step HM.out.drew EZ.out HV.out HVB.out)⟩, rfl⟩)
        case measure => simp [intOf]; omega
    · obtain rfl : k = len := by omega
      go_wp2_with fail
      go_ret
      exact ⟨_, rfl, .inr ⟨_, rfl, HR.out.1⟩, HR.out.2.2.2.1⟩
end Go.Proofs.Ytfeibikakhmecaa
