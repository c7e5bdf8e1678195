/- What zzComments makes: a row of comments. Conditions: the cells. -/
import Derived.Test.YtfeibikakhmecaaCb
import Derived.Laws.OwnMore
import Derived.LoopTactic
import Derived.WalkSpells
import Derived.OwnWalk
import Derived.Outline
import Derived.Handy
import Derived.Laws.MakeOwn
namespace Go.Proofs.Ytfeibikakhmecaa
open Go.RowKit
set_option linter.unusedVariables false

theorem wp_gen {P : Program} {c : Code} {Q : Exit → Act → World → Prop} {a : Act} {W : World} (R : World → Prop) (h : R W) (k : ∀ W', R W' → c.wp P Q a W') : c.wp P Q a W := k W h
theorem cell_alloc' {w : World} {a : Addr} {v : Value} {o : Obj} (h : w.cell? a = some v) : (w.alloc o).cell? a = some v := cell_alloc h
/-- a comment in memory -/
def HashAt (w : World) (g i : Nat) (z : RawC) : Prop :=
  w.cell? ⟨g, i * 3, none⟩ = some (.int .u32 (offCap z.o)) ∧ w.cell? ⟨g, i * 3 + 1, none⟩ = some (.int .u32 (lcOf z.l z.c)) ∧ w.cell? ⟨g, i * 3 + 2, none⟩ = some (.string z.s)
/-- a row of comments: nil, or as long as it is -/
def IsHash (w : World) (v : Value) (n : Nat) (f : Nat → RawC) : Prop :=
  (v = .slice none 0 0 ∧ n = 0) ∨ ∃ g : Nat, v = .slice (some ⟨g, 0, none⟩) n n ∧ ∀ i, i < n → HashAt w g i (f i)
theorem IsHash.below {W w : World} {v : Value} {n : Nat} {f : Nat → RawC} (h : IsHash W v n f) (hb : Below W.heap.size W w) : IsHash w v n f := by
  rcases h with h | ⟨g, e, h⟩
  · exact .inl h
  · exact .inr ⟨g, e, fun i hi => ⟨cell_below hb (h i hi).1, cell_below hb (h i hi).2.1, cell_below hb (h i hi).2.2⟩⟩
/-- the row after k rounds -/
def Fill3 (g n : Nat) (f : Nat → RawC) (w0 : World) (k : Nat) (wr : World) : Prop :=
  (∀ i, i < k → HashAt wr g i (f i)) ∧ (∀ i, k ≤ i → i < n → wr.cell? ⟨g, i * 3, none⟩ = some (.int .u32 0) ∧ wr.cell? ⟨g, i * 3 + 1, none⟩ = some (.int .u32 0) ∧ wr.cell? ⟨g, i * 3 + 2, none⟩ = some (.string ByteArray.empty)) ∧ (∀ j, wr.frozen? ⟨g, j, none⟩ = false) ∧ Below g w0 wr ∧ g < wr.heap.size
theorem fill3_start {w0 : World} {g n : Nat} {f : Nat → RawC} (hg : w0.heap.size = g) : Fill3 g n f w0 0 (w0.alloc (.cells (madeCells #[.int .u32 0, .int .u32 0, .string ByteArray.empty] (n * 3)) 54)) := by
  subst hg
  refine ⟨fun i hi => absurd hi (by omega), fun i _ hi => ?_, fun j => by simp [go_sem], (Below.refl _ _).alloc (Nat.le_refl _) _, by simp⟩
  have e0 : i * 3 % 3 = 0 := by omega
  have e1 : (i * 3 + 1) % 3 = 1 := by omega
  have e2 : (i * 3 + 2) % 3 = 2 := by omega
  have l0 : i * 3 < n * 3 := by omega
  have l1 : i * 3 + 1 < n * 3 := by omega
  have l2 : i * 3 + 2 < n * 3 := by omega
  refine ⟨?_, ?_, ?_⟩
  · simp [go_sem, madeCells, l0, e0]
  · simp [go_sem, madeCells, l1, e1]
  · simp [go_sem, madeCells, l2, e2]
theorem Fill3.below {w0 wr w' : World} {g n k : Nat} {f : Nat → RawC} (h : Fill3 g n f w0 k wr) (hb : Below wr.heap.size wr w') : Fill3 g n f w0 k w' := by
  obtain ⟨h1, h2, h3, h4, h5⟩ := h
  exact ⟨fun i hi => ⟨cell_below hb (h1 i hi).1, cell_below hb (h1 i hi).2.1, cell_below hb (h1 i hi).2.2⟩, fun i hk hi => ⟨cell_below hb (h2 i hk hi).1, cell_below hb (h2 i hk hi).2.1, cell_below hb (h2 i hk hi).2.2⟩,
    fun j => by rw [hb.frozen (p := ⟨g, j, none⟩) h5]; exact h3 j, h4.trans (hb.mono (Nat.le_of_lt h5)), Nat.lt_of_lt_of_le h5 hb.size⟩
/-- .. in the midst of round k: whatever its own three cells hold -/
def Mid3 (g n : Nat) (f : Nat → RawC) (w0 : World) (k : Nat) (wr : World) : Prop :=
  (∀ i, i < k → HashAt wr g i (f i)) ∧ (∀ i, k < i → i < n → wr.cell? ⟨g, i * 3, none⟩ = some (.int .u32 0) ∧ wr.cell? ⟨g, i * 3 + 1, none⟩ = some (.int .u32 0) ∧ wr.cell? ⟨g, i * 3 + 2, none⟩ = some (.string ByteArray.empty)) ∧
    (∃ e0 e1 e2, wr.cell? ⟨g, k * 3, none⟩ = some e0 ∧ wr.cell? ⟨g, k * 3 + 1, none⟩ = some e1 ∧ wr.cell? ⟨g, k * 3 + 2, none⟩ = some e2) ∧ (∀ j, wr.frozen? ⟨g, j, none⟩ = false) ∧ Below g w0 wr ∧ g < wr.heap.size
theorem Fill3.mid {w0 wr : World} {g n k : Nat} {f : Nat → RawC} (h : Fill3 g n f w0 k wr) (hk : k < n) : Mid3 g n f w0 k wr := by
  obtain ⟨h1, h2, h3, h4, h5⟩ := h
  obtain ⟨r0, r1, r2⟩ := h2 k (Nat.le_refl _) hk
  exact ⟨h1, fun i hi hn => h2 i (by omega) hn, ⟨_, _, _, r0, r1, r2⟩, h3, h4, h5⟩
theorem Mid3.below {w0 wr w' : World} {g n k : Nat} {f : Nat → RawC} (h : Mid3 g n f w0 k wr) (hb : Below wr.heap.size wr w') : Mid3 g n f w0 k w' := by
  obtain ⟨h1, h2, ⟨e0, e1, e2, r0, r1, r2⟩, h3, h4, h5⟩ := h
  exact ⟨fun i hi => ⟨cell_below hb (h1 i hi).1, cell_below hb (h1 i hi).2.1, cell_below hb (h1 i hi).2.2⟩, fun i hk hi => ⟨cell_below hb (h2 i hk hi).1, cell_below hb (h2 i hk hi).2.1, cell_below hb (h2 i hk hi).2.2⟩, ⟨e0, e1, e2, cell_below hb r0, cell_below hb r1, cell_below hb r2⟩,
    fun j => by rw [hb.frozen (p := ⟨g, j, none⟩) h5]; exact h3 j, h4.trans (hb.mono (Nat.le_of_lt h5)), Nat.lt_of_lt_of_le h5 hb.size⟩
theorem Mid3.drew {w0 wr : World} {g n k : Nat} {f : Nat → RawC} (h : Mid3 g n f w0 k wr) : Mid3 g n f w0 k wr.drew := h.below (below_drew _)
/-- the round's three stores -/
def st3 (g k : Nat) (z : RawC) (wr : World) : World := ((wr.setCell ⟨g, k * 3, none⟩ (.int .u32 (offCap z.o))).setCell ⟨g, k * 3 + 1, none⟩ (.int .u32 (lcOf z.l z.c))).setCell ⟨g, k * 3 + 2, none⟩ (.string z.s)
theorem st3_other {g k i j : Nat} {z : RawC} {wr : World} {v : Value} (hj : j < 3) (hi : i ≠ k) (h : wr.cell? ⟨g, i * 3 + j, none⟩ = some v) : (st3 g k z wr).cell? ⟨g, i * 3 + j, none⟩ = some v := by
  unfold st3
  rw [World.cell?_setCell_other _ _ _ _ (fun e => by injection e with _ e; omega), World.cell?_setCell_other _ _ _ _ (fun e => by injection e with _ e; omega), World.cell?_setCell_other _ _ _ _ (fun e => by injection e with _ e; omega)]
  exact h
theorem st3_far {g k b o : Nat} {z : RawC} {wr : World} {v : Value} (hb : b ≠ g) (h : wr.cell? ⟨b, o, none⟩ = some v) : (st3 g k z wr).cell? ⟨b, o, none⟩ = some v := by
  unfold st3
  rw [World.cell?_setCell_other _ _ _ _ (fun e => by injection e with e; omega), World.cell?_setCell_other _ _ _ _ (fun e => by injection e with e; omega), World.cell?_setCell_other _ _ _ _ (fun e => by injection e with e; omega)]
  exact h
theorem st3_size {g k : Nat} {z : RawC} {wr : World} : (st3 g k z wr).heap.size = wr.heap.size := by simp [st3]
theorem Mid3.parts {w0 wr : World} {g n k : Nat} {f : Nat → RawC} {z : RawC} (h : Mid3 g n f w0 k wr) :
    (∀ i, i < k → HashAt (st3 g k z wr) g i (f i)) ∧ (∀ i, k < i → i < n → (st3 g k z wr).cell? ⟨g, i * 3, none⟩ = some (.int .u32 0) ∧ (st3 g k z wr).cell? ⟨g, i * 3 + 1, none⟩ = some (.int .u32 0) ∧ (st3 g k z wr).cell? ⟨g, i * 3 + 2, none⟩ = some (.string ByteArray.empty)) ∧
      HashAt (st3 g k z wr) g k z ∧ (∀ j, (st3 g k z wr).frozen? ⟨g, j, none⟩ = false) ∧ Below g w0 (st3 g k z wr) ∧ g < (st3 g k z wr).heap.size := by
  obtain ⟨h1, h2, ⟨e0, e1, e2, r0, r1, r2⟩, h3, h4, h5⟩ := h
  refine ⟨fun i hi => ⟨st3_other (j := 0) (by omega) (by omega) (h1 i hi).1, st3_other (by omega) (by omega) (h1 i hi).2.1, st3_other (by omega) (by omega) (h1 i hi).2.2⟩, fun i hki hi => ⟨st3_other (j := 0) (by omega) (by omega) (h2 i hki hi).1, st3_other (by omega) (by omega) (h2 i hki hi).2.1, st3_other (by omega) (by omega) (h2 i hki hi).2.2⟩,
    ⟨by simp [st3, go_sem, r0], by simp [st3, go_sem, r1], by simp [st3, go_sem, r2]⟩, fun j => by have := h3 j; simpa [st3, go_sem] using this, ((h4.setCell (p := ⟨g, k * 3, none⟩) (Nat.le_refl _) _).setCell (p := ⟨g, k * 3 + 1, none⟩) (Nat.le_refl _) _).setCell (p := ⟨g, k * 3 + 2, none⟩) (Nat.le_refl _) _, by rw [st3_size]; exact h5⟩
theorem Mid3.stored {w0 wr : World} {g n k : Nat} {f : Nat → RawC} (z : RawC) (h : Mid3 g n f w0 k wr) : Mid3 g n f w0 k (st3 g k z wr) := by
  obtain ⟨h1, h2, h3, h4, h5, h6⟩ := h.parts (z := z)
  exact ⟨h1, h2, ⟨_, _, _, h3.1, h3.2.1, h3.2.2⟩, h4, h5, h6⟩
theorem Mid3.step {w0 wr : World} {g n k : Nat} {f : Nat → RawC} {z : RawC} (h : Mid3 g n f w0 k wr) (hz : z = f k) : Fill3 g n f w0 (k + 1) (st3 g k z wr) := by
  obtain ⟨h1, h2, h3, h4, h5, h6⟩ := h.parts (z := z)
  refine ⟨fun i hi => ?_, fun i hki hi => h2 i (by omega) hi, h4, h5, h6⟩
  by_cases e : i = k
  · rw [e, ← hz]; exact h3
  · exact h1 i (by omega)
theorem infoCom : (Try.prog.info? 54).map (fun i => (i.zero, i.size, i.bytes)) = some (some (.agg #[.int .u32 0, .int .u32 0, .string ByteArray.empty]), 3, 24) := by kernel_rfl
theorem run_make_rowN {P : Program} (t e : TypeId) (i : TypeInfo) (z : Value) (ht : P.underlying t = some (.slice e)) (hi : P.info? e = some i) (hz : i.zero = some z)
    (kl kc : IntKind) (n c : Nat) (hnc : n ≤ c) (hbytes : i.bytes * c ≤ 281474976710656) (h63 : c ≤ 9223372036854775807) (w : World) :
    (Instr.makeSlice t (.int kl (n : Int)) (.int kc (c : Int))).run P w = .ok (.slice (some ⟨w.heap.size, 0, none⟩) n c) (w.alloc (.cells (madeCells z.cells (c * i.size)) e)) := by
  have hb : (i.bytes : Int) * (c : Int) ≤ 281474976710656 := by
    have h : ((i.bytes * c : Nat) : Int) ≤ 281474976710656 := by omega
    rwa [Int.natCast_mul] at h
  have hr := run_make (P := P) w t e i z ht hi hz kl kc n c (by omega) (by omega) hb (by omega)
  simp only [Int.toNat_natCast] at hr
  exact hr
theorem mk_coms (n : Nat) (hn : n ≤ 1048576) : ∀ W : World, (Instr.makeSlice 31 (.int .i64 (n : Int)) (.int .i64 (n : Int))).run Try.prog W = .ok (.slice (some ⟨W.heap.size, 0, none⟩) n n) (W.alloc (.cells (madeCells #[.int .u32 0, .int .u32 0, .string ByteArray.empty] (n * 3)) 54)) := fun W => by
  obtain ⟨i0, hi, hz0, hz1, hz2⟩ := info_parts infoCom
  have h := run_make_rowN (P := Try.prog) 31 54 i0 _ Try.underlying31 hi hz0 .i64 .i64 n n (Nat.le_refl _) (by rw [hz2]; omega) (by omega) W
  rw [hz1] at h
  exact h
set_option maxRecDepth 100000 in
set_option maxHeartbeats 4000000 in
theorem zc_some (x : Addr) (len cap : Nat) (f : Nat → RawC) (w : World) (h : IsComs w (some x) len cap f) (hn : len ≤ 1048576) :
    Calls Try.prog 12 #[.slice (some x) len cap] w fun e w' => ∃ v, e = .returned v ∧ IsHash w' v len f ∧ (∀ b n m, v = .slice (some ⟨b, 0, none⟩) n m → w.heap.size ≤ b) ∧ Below w.heap.size w w' := by
  have H := Lib.hid h
  clear h
  have hnil := fun (W : World) => Lib.run_eql_slice_nil (P := Try.prog) W 32 40 (some x) len cap 0 0 Try.underlying32
  have hmk := mk_coms len hn
  go_enter Try.func12, Try.ntmps12
  go_wp2_with fail
  refine wp_gen (fun V => Fill3 w.heap.size len f w 0 V) (fill3_start rfl) ?_
  intro V hF
  have HF := Lib.hid hF
  clear hF hmk hnil
  go_loopw [12] (fun i wr => ∃ k : Nat, k ≤ len ∧ i = .int .i64 k ∧ Hid (Fill3 w.heap.size len f w k wr)) (fun i _ => len - (intOf i).toNat)
  case atStart => exact ⟨0, Nat.zero_le _, rfl, HF⟩
  case round =>
    obtain ⟨k, hk, rfl, HR⟩ := hrel
    clear HF
    by_cases hlt : k < len
    · rcases H.out with ⟨h, _, _⟩ | ⟨_, _, h, _⟩ | ⟨b, o, hx, _, _, _, hc⟩
      · exact absurd h (by simp)
      · exact absurd hlt (by omega)
      obtain rfl : x = ⟨b, o, none⟩ := by injection hx
      obtain ⟨Z, eZ⟩ : ∃ Z, Z = f k := ⟨_, rfl⟩
      have EZ := Lib.hid eZ
      obtain ⟨hcs, q0, q1, q2, _⟩ := hc k hlt
      rw [← eZ] at hcs q0 q1 q2
      have z3 : b < w.heap.size := by have := World.block_lt_of_cell? _ _ hcs.1; simpa using this
      have hbg : b ≠ w.heap.size := by omega
      have HC := Lib.hid (show ∀ W, Mid3 w.heap.size len f w k W → (W.cell? ⟨b, o + k * 4, none⟩ = some (.int .u32 Z.o) ∧ W.cell? ⟨b, o + k * 4 + 1, none⟩ = some (.int .u32 Z.l) ∧ W.cell? ⟨b, o + k * 4 + 2, none⟩ = some (.int .u32 Z.c) ∧ W.cell? ⟨b, o + k * 4 + 3, none⟩ = some (.string Z.s)) ∧ b < W.heap.size from fun W hW =>
        ⟨⟨cell_below hW.2.2.2.2.1 hcs.1, cell_below hW.2.2.2.2.1 hcs.2.1, cell_below hW.2.2.2.2.1 hcs.2.2.1, cell_below hW.2.2.2.2.1 hcs.2.2.2⟩, Nat.lt_of_lt_of_le z3 hW.2.2.2.2.1.size⟩)
      have HM := Lib.hid (HR.out.mid hlt)
      clear hc hx eZ hcs HR
      obtain ⟨⟨c0, c1, c2, c3⟩, z1⟩ := HC.out _ HM.out
      obtain ⟨e0, e1, e2, r0, r1, r2⟩ := HM.out.2.2.1
      have f0 := HM.out.2.2.2.1 (k * 3)
      have f1 := HM.out.2.2.2.1 (k * 3 + 1)
      have f2 := HM.out.2.2.2.1 (k * 3 + 2)
      have z0 := HM.out.2.2.2.2.2
      go_wp2_with fail
      go_region_held3 (fun W9 => Hid (Mid3 w.heap.size len f w k W9) ∧ W9.cell? ⟨b, o + k * 4, none⟩ = some (.int .u32 Z.o) ∧ W9.cell? ⟨b, o + k * 4 + 1, none⟩ = some (.int .u32 Z.l) ∧ W9.cell? ⟨b, o + k * 4 + 2, none⟩ = some (.int .u32 Z.c) ∧ W9.cell? ⟨b, o + k * 4 + 3, none⟩ = some (.string Z.s) ∧ b < W9.heap.size ∧ w.heap.size < W9.heap.size)
        (first
          | exact ⟨HM, c0, c1, c2, c3, z1, z0⟩
          | exact ⟨Lib.hid HM.out.drew, c0, c1, c2, c3, z1, z0⟩
          | exact ⟨Lib.hid (HM.out.stored Z), st3_far hbg c0, st3_far hbg c1, st3_far hbg c2, st3_far hbg c3, Nat.lt_of_lt_of_eq z1 st3_size.symm, Nat.lt_of_lt_of_eq z0 st3_size.symm⟩
          | exact ⟨Lib.hid (HM.out.drew.stored Z), st3_far hbg c0, st3_far hbg c1, st3_far hbg c2, st3_far hbg c3, Nat.lt_of_lt_of_eq z1 st3_size.symm, Nat.lt_of_lt_of_eq z0 st3_size.symm⟩)
        (first | (go_at_call 15; refine (zpos_any _ _ _ _ q0 q1 q2).mono ?_; rintro e wN ⟨rfl, hbN⟩; have HM := Lib.hid (Mid3.below (Hid.out (And.left (by assumption))) hbN); clear hbN; obtain ⟨⟨c0, c1, c2, c3⟩, z1⟩ := HC.out _ HM.out; obtain ⟨e0, e1, e2, r0, r1, r2⟩ := HM.out.2.2.1; have f0 := HM.out.2.2.2.1 (k * 3); have f1 := HM.out.2.2.2.1 (k * 3 + 1); have f2 := HM.out.2.2.2.1 (k * 3 + 2); have z0 := HM.out.2.2.2.2.2))
      all_goals
        go_wp2_with fail
        go_roundw
        case rel =>
          skip
          first
            | exact ⟨k + 1, by omega, by go_num, Lib.hid (Mid3.step HM.out EZ.out)⟩
            | exact ⟨k + 1, by omega, by go_num, Lib.hid (Mid3.step HM.out.drew EZ.out)⟩
            | ((repeat apply Exists.intro); exact ⟨⟨k + 1, by omega, by go_num, Lib.hid (Mid3.step HM.out EZ.out)⟩, rfl⟩)
            | ((repeat apply Exists.intro); exact ⟨⟨k + 1, by omega, by go_num, Lib.hid (Mid3.step HM.out.drew EZ.out)⟩, rfl⟩)
        case measure => simp [intOf]; omega
    · obtain rfl : k = len := by omega
      go_wp2_with fail
      go_ret
      exact ⟨_, rfl, .inr ⟨_, rfl, HR.out.1⟩, fun b n m e => by injection e with e; injection e with e; injection e with e; omega, HR.out.2.2.2.1⟩
end Go.Proofs.Ytfeibikakhmecaa
