/- What zzSubshellChain_b2 builds. Conditions: depth and m at most 65536. -/
import Derived.Test.YtdhoamfpeioieaaSub
namespace Go.Proofs.Ytdhoamfpeioieaa
open Go.RowKit
set_option linter.unusedVariables false
set_option linter.unusedSimpArgs false

/-- a row made with n cells, its first cells filled by l -/
def FillL (E : TypeId) (z : Value) (g n : Nat) (w0 : World) (l : List Value) (wr : World) : Prop :=
  wr.ownsRow g E 1 (.slice (some ⟨g, 0, none⟩) n n) n (l ++ List.replicate (n - l.length) z) ∧ Below g w0 wr ∧ g < wr.heap.size
theorem fillL_start {E : TypeId} {z : Value} {w0 : World} {g n : Nat} {C : Array Value} (hg : w0.heap.size = g) (hn : n ≤ 65537) (hC : C.toList = List.replicate n z) : FillL E z g n w0 [] (w0.alloc (.cells C E)) := by
  subst hg
  refine ⟨?_, (Below.refl _ _).alloc (Nat.le_refl _) _, by simp⟩
  have h := World.ownsRow_lit (e := E) (size := 1) (base := w0.heap.size) w0 C n (Nat.le_refl _) (by unfold maxLen; omega) (by have h2 := congrArg List.length hC; simpa using h2)
  rw [hC] at h
  simpa using h
theorem fillL_cell {E : TypeId} {z : Value} {w0 wr : World} {g n : Nat} {l : List Value} (h : FillL E z g n w0 l wr) (hk : l.length < n) : wr.cell? ⟨g, l.length, none⟩ = some z := by
  rw [h.1.cellAt l.length (by omega), List.getElem?_append_right (Nat.le_refl _), Nat.sub_self, show n - l.length = (n - (l.length + 1)) + 1 by omega, List.replicate_succ]
  rfl
theorem fillL_step {E : TypeId} {z x : Value} {w0 wr : World} {g n : Nat} {l : List Value} (h : FillL E z g n w0 l wr) (hk : l.length < n) : FillL E z g n w0 (l ++ [x]) (wr.setCell ⟨g, l.length, none⟩ x) := by
  have hst := (h.1.stored l.length x).1
  refine ⟨?_, h.2.1.setCell (Nat.le_refl _) _, by simpa using h.2.2⟩
  have e : (l ++ List.replicate (n - l.length) z).set l.length x = l ++ [x] ++ List.replicate (n - (l ++ [x]).length) z := by
    rw [List.set_append_right _ _ (Nat.le_refl _), Nat.sub_self, show n - l.length = (n - (l.length + 1)) + 1 by omega, List.replicate_succ]
    simp
  rw [← e]
  exact hst
theorem fillL_alloc {E : TypeId} {z : Value} {w0 wr : World} {g n : Nat} {l : List Value} (h : FillL E z g n w0 l wr) (o : Obj) : FillL E z g n w0 l (wr.alloc o) :=
  ⟨h.1.alloc _, h.2.1.alloc (Nat.le_of_lt h.2.2) _, by have := h.2.2; simp; omega⟩
theorem fillL_get {E : TypeId} {z : Value} {w0 wr : World} {g n : Nat} {l : List Value} (h : FillL E z g n w0 l wr) (i : Nat) (hi : i < l.length) (hn : l.length ≤ n) : wr.cell? ⟨g, i, none⟩ = some l[i] := by
  rw [h.1.cellAt i (by omega), List.getElem?_append_left hi, List.getElem?_eq_getElem hi]
theorem infoSt : (Try.prog.info? 75).map (fun i => (i.zero, i.size, i.bytes)) = some (some (.pointer none), 1, 8) := by kernel_rfl
theorem infoRSt : (Try.prog.info? 24).map (fun i => (i.zero, i.size, i.bytes)) = some (some (.slice none 0 0), 1, 24) := by kernel_rfl
theorem mk_sts (n : Nat) (hn : n ≤ 65537) : ∀ W : World, (Instr.makeSlice 24 (.int .i64 (n : Int)) (.int .i64 (n : Int))).run Try.prog W = .ok (.slice (some ⟨W.heap.size, 0, none⟩) n n) (W.alloc (.cells (madeCells (Value.pointer none).cells (n * 1)) 75)) := fun W => by
  obtain ⟨i0, hi, hz0, hz1, hz2⟩ := info_parts infoSt
  have h := run_make_rowN (P := Try.prog) 24 75 i0 (.pointer none) Try.underlying24 hi hz0 .i64 .i64 n n (Nat.le_refl _) (by rw [hz2]; omega) (by omega) W
  rw [hz1] at h
  exact h
theorem mk_lists (n : Nat) (hn : n ≤ 65536) : ∀ W : World, (Instr.makeSlice 22 (.int .i64 ((n : Int) + 1)) (.int .i64 ((n : Int) + 1))).run Try.prog W = .ok (.slice (some ⟨W.heap.size, 0, none⟩) (n + 1) (n + 1)) (W.alloc (.cells (madeCells (Value.slice none 0 0).cells ((n + 1) * 1)) 24)) := fun W => by
  obtain ⟨i0, hi, hz0, hz1, hz2⟩ := info_parts infoRSt
  have h := run_make_rowN (P := Try.prog) 22 24 i0 (.slice none 0 0) Try.underlying22 hi hz0 .i64 .i64 (n + 1) (n + 1) (Nat.le_refl _) (by rw [hz2]; omega) (by omega) W
  rw [hz1] at h
  exact h
/-- the leaf's row after k rounds -/
def RLeaf (g n : Nat) (w0 : World) (k : Nat) (wr : World) : Prop :=
  ∃ l : List Value, l.length = k ∧ FillL 75 (.pointer none) g n w0 l wr ∧ ∀ i, (h : i < l.length) → ∃ p : Nat, l[i] = .pointer (some ⟨p, 0, none⟩) ∧ g < p ∧ StopS wr p
/-- the lists' row when lists[c] is filled -/
def RLists (L d : Nat) (w0 : World) (c : Nat) (wr : World) : Prop :=
  (∀ i, i < c → wr.cell? ⟨L, i, none⟩ = some (.slice none 0 0)) ∧ (∀ i, i ≤ d → wr.frozen? ⟨L, i, none⟩ = false) ∧ (∃ k s v0, wr.cell? ⟨L, c, none⟩ = some s ∧ ChainS wr (fun b => b ≠ L) v0 k s) ∧ Below L w0 wr ∧ L < wr.heap.size
theorem leaf_stop {g n : Nat} {w0 wr : World} (h : RLeaf g n w0 n wr) (hn : n ≤ 65536) (A : Nat → Prop) (hA : ∀ b, g ≤ b → b < wr.heap.size → A b) : StopL wr A (.slice (some ⟨g, 0, none⟩) n n) := by
  obtain ⟨l, hl, hf, hp⟩ := h
  refine ⟨g, n, rfl, hn, fun _ => hA g (Nat.le_refl _) hf.2.2, fun i hi => ?_⟩
  obtain ⟨p, e, h1, h2⟩ := hp i (by omega)
  refine ⟨p, hA p (by omega) h2.lt, ?_, h2⟩
  rw [fillL_get hf i (by omega) (by omega), e]
set_option maxHeartbeats 2000000 in
theorem leaf_step {g m : Nat} {w wr : World} {l : List Value} (hF : FillL 75 (.pointer none) g m w l wr) (hp : ∀ i, (h : i < l.length) → ∃ p : Nat, l[i] = .pointer (some ⟨p, 0, none⟩) ∧ g < p ∧ StopS wr p) (hlt : l.length < m) :
    RLeaf g m w (l.length + 1) (((wr.setCell ⟨g, l.length, none⟩ (.pointer (some ⟨wr.heap.size + 1, 0, none⟩))).alloc (.cells #[.slice none 0 0, .slice none 0 0] 80)).alloc (.cells #[.slice none 0 0, .iface 76 (.pointer (some ⟨wr.heap.size, 0, none⟩)), .int .u32 0, .int .u32 0, .int .u32 0, .int .u32 0, .bool false, .bool false, .bool false, .bool false, .slice none 0 0] 86)) := by
  have h1 := fillL_step (x := .pointer (some ⟨wr.heap.size + 1, 0, none⟩)) hF hlt
  refine ⟨l ++ [.pointer (some ⟨wr.heap.size + 1, 0, none⟩)], by simp, ?_, fun i hi => ?_⟩
  · exact fillL_alloc (fillL_alloc h1 _) _
  have hg := hF.2.2
  by_cases h : i < l.length
  · obtain ⟨p, e, h1, h2⟩ := hp i h
    refine ⟨p, by rw [List.getElem_append_left h]; exact e, h1, h2.keep fun o v hc => cell_alloc (cell_alloc ?_)⟩
    rw [World.cell?_setCell_other _ _ _ _ (fun e => by injection e with e; omega)]
    exact hc
  · have hi' : i = l.length := by simp at hi; omega
    subst hi'
    refine ⟨wr.heap.size + 1, by simp, by omega, .inr (.inr (.inr (.inr (.inr ⟨?_, ?_, ?_, ?_, ?_, wr.heap.size, ?_⟩))))⟩
    all_goals simp [go_sem]
/-- lists[depth] = leaf -/
theorem lists_start {g L d m : Nat} {w wr : World} {C : Array Value} (h : RLeaf g m w m wr) (hm : m ≤ 65536) (hL : L = wr.heap.size) (hC : C.toList = List.replicate (d + 1) (.slice none 0 0)) :
    RLists L d wr d (wr.alloc (.cells (C.setIfInBounds d (.slice (some ⟨g, 0, none⟩) m m)) 24)) := by
  subst hL
  have hcell : ∀ i, i < d → (C.setIfInBounds d (.slice (some ⟨g, 0, none⟩) m m))[i]? = some (.slice none 0 0) := fun i hi => by
    rw [Array.getElem?_setIfInBounds_ne (by omega), ← Array.getElem?_toList, hC]
    simp [show i < d + 1 by omega]
  have hsz : d < C.size := by have := congrArg List.length hC; simp at this; omega
  refine ⟨fun i hi => ?_, fun i hi => ?_, ⟨0, .slice (some ⟨g, 0, none⟩) m m, .slice (some ⟨g, 0, none⟩) m m, ?_, rfl, ?_⟩, (Below.refl _ _).alloc (Nat.le_refl _) _, by simp⟩
  · rw [← hcell i hi]
    simp [go_sem]
  · simp [go_sem]
  · simp [go_sem, hsz]
  · exact (leaf_stop h hm (fun b => b < wr.heap.size) (fun b _ hb => hb)).keep (fun b o v hb h => cell_alloc h) (fun b hb => by omega)
/-- b is a with new blocks and with the cell (L, j) turned -/
def Ext (L j : Nat) (a b : World) : Prop :=
  (∀ c o v, c ≠ L → a.cell? ⟨c, o, none⟩ = some v → b.cell? ⟨c, o, none⟩ = some v) ∧ (∀ i v, i ≠ j → a.cell? ⟨L, i, none⟩ = some v → b.cell? ⟨L, i, none⟩ = some v) ∧ (∀ i, L < a.heap.size → b.frozen? ⟨L, i, none⟩ = a.frozen? ⟨L, i, none⟩) ∧ (∀ w0, L < a.heap.size → Below L w0 a → Below L w0 b) ∧ a.heap.size ≤ b.heap.size
theorem Ext.refl (L j : Nat) (a : World) : Ext L j a a := ⟨fun _ _ _ _ h => h, fun _ _ _ h => h, fun _ _ => rfl, fun _ _ h => h, Nat.le_refl _⟩
theorem Ext.alloc {L j : Nat} {a b : World} (h : Ext L j a b) (o : Obj) : Ext L j a (b.alloc o) :=
  ⟨fun c o v hc h1 => cell_alloc (h.1 c o v hc h1), fun i v hi h1 => cell_alloc (h.2.1 i v hi h1), fun i hL => by
    rw [← h.2.2.1 i hL]
    have : L < b.heap.size := Nat.lt_of_lt_of_le hL h.2.2.2.2
    simp [go_sem, this], fun w0 hL hb => (h.2.2.2.1 w0 hL hb).alloc (by have := h.2.2.2.2; omega) _, by have := h.2.2.2.2; simp; omega⟩
theorem Ext.setNew {L j c o : Nat} {a b : World} {v : Value} (h : Ext L j a b) (hc : a.heap.size ≤ c) : Ext L j a (b.setCell ⟨c, o, none⟩ v) :=
  ⟨fun c' o' v' hc' h1 => by
    have := World.block_lt_of_cell? _ _ h1
    simp only at this
    rw [World.cell?_setCell_other _ _ _ _ (fun e => by injection e with e; omega)]
    exact h.1 c' o' v' hc' h1, fun i v' hi h1 => by
    have := World.block_lt_of_cell? _ _ h1
    simp only at this
    rw [World.cell?_setCell_other _ _ _ _ (fun e => by injection e with e; omega)]
    exact h.2.1 i v' hi h1, fun i hL => by rw [← h.2.2.1 i hL]; simp [go_sem], fun w0 hL hb => (h.2.2.2.1 w0 hL hb).setCell (by show L ≤ c; omega) _, by have := h.2.2.2.2; simpa using this⟩
theorem Ext.setL {L j : Nat} {a b : World} {v : Value} (h : Ext L j a b) : Ext L j a (b.setCell ⟨L, j, none⟩ v) :=
  ⟨fun c' o' v' hc' h1 => by
    rw [World.cell?_setCell_other _ _ _ _ (fun e => by injection e with e; omega)]
    exact h.1 c' o' v' hc' h1, fun i v' hi h1 => by
    rw [World.cell?_setCell_other _ _ _ _ (fun e => by injection e with _ e; omega)]
    exact h.2.1 i v' hi h1, fun i hL => by rw [← h.2.2.1 i hL]; simp [go_sem], fun w0 hL hb => (h.2.2.2.1 w0 hL hb).setCell (Nat.le_refl _) _, by have := h.2.2.2.2; simpa using this⟩
theorem lists_ext {L d j : Nat} {w0 wr w' : World} (hR : RLists L d w0 (j + 1) wr) (hE : Ext L j wr w') (hch : ∃ k s v0, w'.cell? ⟨L, j, none⟩ = some s ∧ ChainS w' (fun b => b ≠ L) v0 k s) : RLists L d w0 j w' := by
  obtain ⟨h1, h2, _, h4, h5⟩ := hR
  exact ⟨fun i hi => hE.2.1 i _ (by omega) (h1 i (by omega)), fun i hi => by rw [hE.2.2.1 i h5]; exact h2 i hi, hch, hE.2.2.2.1 _ h5 h4, Nat.lt_of_lt_of_le h5 hE.2.2.2.2⟩
theorem lists_deep {L d j h p q k : Nat} {w0 wr w' : World} {s v0 : Value} (hR : RLists L d w0 (j + 1) wr) (hE : Ext L j wr w') (hch : ChainS wr (fun b => b ≠ L) v0 k s) (hc : w'.cell? ⟨L, j, none⟩ = some (.slice (some ⟨h, 0, none⟩) 1 1)) (hn : h ≠ L ∧ p ≠ L ∧ q ≠ L)
    (c1 : w'.cell? ⟨h, 0, none⟩ = some (.pointer (some ⟨p, 0, none⟩))) (f : w'.cell? ⟨p, 6, none⟩ = some (.bool false) ∧ w'.cell? ⟨p, 7, none⟩ = some (.bool false) ∧ w'.cell? ⟨p, 8, none⟩ = some (.bool false) ∧ w'.cell? ⟨p, 9, none⟩ = some (.bool false) ∧ w'.cell? ⟨p, 10, none⟩ = some (.slice none 0 0) ∧ w'.cell? ⟨p, 1, none⟩ = some (.iface 87 (.pointer (some ⟨q, 0, none⟩))))
    (c2 : w'.cell? ⟨q, 4, none⟩ = some s) : RLists L d w0 j w' :=
  lists_ext hR hE ⟨k + 1, _, v0, hc, h, p, q, s, rfl, hn, c1, f, c2, hch.keep (fun b o v hb h => hE.1 b o v hb h) (fun _ h => h)⟩
theorem lists_stop {L d j h p : Nat} {w0 wr w' : World} (hR : RLists L d w0 (j + 1) wr) (hE : Ext L j wr w') (hc : w'.cell? ⟨L, j, none⟩ = some (.slice (some ⟨h, 0, none⟩) 1 1)) (hn : h ≠ L ∧ p ≠ L)
    (c1 : w'.cell? ⟨h, 0, none⟩ = some (.pointer (some ⟨p, 0, none⟩))) (hs : StopS w' p) : RLists L d w0 j w' :=
  lists_ext hR hE ⟨0, _, _, hc, rfl, h, 1, rfl, by omega, fun _ => hn.1, fun i hi => by
    obtain rfl : i = 0 := by omega
    exact ⟨p, hn.2, c1, hs⟩⟩
theorem rel_of {L d j : Nat} {w0 w' : World} (hj : j < d) (h : RLists L d w0 j w') : (Value.int .i64 ((j : Int) - 1) = .int .i64 (-1) ∧ Hid (RLists L d w0 0 w')) ∨ ∃ j' : Nat, j' < d ∧ Value.int .i64 ((j : Int) - 1) = .int .i64 j' ∧ Hid (RLists L d w0 (j' + 1) w') := by
  cases j with
  | zero => exact .inl ⟨by go_num, h⟩
  | succ j => exact .inr ⟨j, by omega, by go_num, h⟩
theorem ChainS.form {W : World} {A : Nat → Prop} {v0 : Value} : ∀ {k : Nat} {s : Value}, ChainS W A v0 k s → ∃ g n : Nat, s = .slice (some ⟨g, 0, none⟩) n n
  | 0, _, ⟨rfl, g, n, e, _⟩ => ⟨g, n, e⟩
  | _ + 1, _, ⟨h, _, _, _, e, _⟩ => ⟨h, 1, e⟩
set_option maxRecDepth 100000 in
set_option maxHeartbeats 4000000 in
theorem sch_any (d m : Nat) (at_ kind : Int) (w : World) (hd : d ≤ 65536) (hm : m ≤ 65536) (hk : kind = 0 ∨ kind = 1 ∨ kind = 2 ∨ kind = 3 ∨ kind = 4) :
    Calls Try.prog 7 #[.int .i64 d, .int .i64 at_, .int .i64 kind, .int .i64 m] w fun e w' => ∃ (L : Nat) (k : Nat) (s v0 : Value), e = .returned (.slice (some ⟨L, 0, none⟩) (d + 1) (d + 1)) ∧ w'.cell? ⟨L, 0, none⟩ = some s ∧ ChainS w' (fun b => b ≠ L) v0 k s ∧ Below w.heap.size w w' := by
  have hmk := mk_sts m (by omega)
  go_enter Try.func7, Try.ntmps7
  go_wp2_with fail
  refine wp_gen (fun U => RLeaf w.heap.size m w 0 U) ⟨[], rfl, fillL_start rfl (by omega) (by first | exact made_cells _ _ rfl | exact toList_madeCells_one _ _ | simp [toList_madeCells_one]), fun i hi => absurd hi (by simp)⟩ ?_
  intro U hG
  have HG := Lib.hid hG
  clear hG hmk
  go_loopw [10] (fun i wr => ∃ k : Nat, k ≤ m ∧ i = .int .i64 k ∧ Hid (RLeaf w.heap.size m w k wr)) (fun i _ => m - (intOf i).toNat)
  case atStart => exact ⟨0, Nat.zero_le _, rfl, HG⟩
  case round =>
    obtain ⟨k, hkm, rfl, HR⟩ := hrel
    clear HG
    by_cases hlt : k < m
    · obtain ⟨l, rfl, hF, hp⟩ := HR.out
      have c2 := fillL_cell hF hlt
      have f2 := hF.1.frozenAt l.length
      have z2 := World.block_lt_of_cell? _ _ c2
      simp only at z2
      have HF := Lib.hid hF
      have HP := Lib.hid hp
      clear HR hF hp
      go_wp2_with fail
      go_roundw
      case rel => exact ⟨l.length + 1, by omega, by go_num, Lib.hid (leaf_step HF.out HP.out hlt)⟩
      case measure => simp [intOf]; omega
    · obtain rfl : k = m := by omega
      have hmk := mk_lists d hd
      have HB := Lib.hid HR.out.choose_spec.2.1.2.1
      have v1 := IntWalk.i64_in ((d : Int) + 1) (by omega)
      have v2 : (d : Int) < (d : Int) + 1 := by omega
      have v3 : (0 : Int) ≤ (d : Int) := by omega
      have hcd : (madeCells #[Value.slice none 0 0] (d + 1))[d]? = some (.slice none 0 0) := by
        rw [← Array.getElem?_toList, toList_madeCells_one]
        simp
      go_wp2_with fail
      refine wp_gen (fun U => RLists wr.heap.size d wr d U) (lists_start HR.out hm rfl (toList_madeCells_one _ _)) ?_
      intro V hV
      have HV := Lib.hid hV
      clear hV hmk hcd HR
      have HBw := HB
      clear HB
      obtain ⟨L, eL⟩ : ∃ L, L = wr.heap.size := ⟨_, rfl⟩
      rw [← eL] at HV ⊢
      have HL := Lib.hid (show w.heap.size ≤ L by rw [eL]; exact HBw.out.size)
      have HW := Lib.hid (show Below w.heap.size w wr from HBw.out)
      clear eL
      go_loopw [12] (fun i wx => (i = .int .i64 (-1) ∧ Hid (RLists L d wr 0 wx)) ∨ ∃ j : Nat, j < d ∧ i = .int .i64 j ∧ Hid (RLists L d wr (j + 1) wx)) (fun i _ => (intOf i + 1).toNat)
      case atStart =>
        by_cases h0 : d = 0
        · subst h0
          exact .inl ⟨by go_num, HV⟩
        · obtain ⟨j, rfl⟩ : ∃ j, d = j + 1 := ⟨d - 1, by omega⟩
          exact .inr ⟨j, by omega, by go_num, HV⟩
      case round =>
        clear HV
        rcases hrel with ⟨rfl, HR⟩ | ⟨j, hj, rfl, HR⟩
        · obtain ⟨_, _, ⟨k, s, v0, hc, hch⟩, hb, _⟩ := HR.out
          have hb' := Lib.hid (HW.out.trans (hb.mono HL.out))
          have HF := Lib.hid (And.intro hc hch)
          clear hb hc hch
          go_wp2_with fail
          go_ret
          exact ⟨L, k, s, v0, rfl, HF.out.1, HF.out.2, hb'.out⟩
        · have c1 := HR.out.1 j (by omega)
          have f1 := HR.out.2.1 j (by omega)
          obtain ⟨k, s, v0, c2, hch⟩ := HR.out.2.2.1
          have HC := Lib.hid hch
          obtain ⟨g', n', rfl⟩ := hch.form
          have z1 := World.block_lt_of_cell? _ _ c1
          simp only at z1
          have y2 : L < wr.heap.size + 1 + 1 := by omega
          have y3 : L < wr.heap.size + 1 + 1 + 1 := by omega
          have y4 : L < wr.heap.size + 1 + 1 + 1 + 1 := by omega
          have z2 := World.block_lt_of_cell? _ _ c2
          simp only at z2
          have v4 : (0 : Int) ≤ (j : Int) := by omega
          have v5 : (j : Int) < (d : Int) + 1 := by omega
          have v6 : (j : Int) + 1 < (d : Int) + 1 := by omega
          have v7 : ((j : Int) + 1).toNat = j + 1 := by omega
          have v8 : (0 : Int) ≤ (j : Int) + 1 := by omega
          have v9 := IntWalk.i64_in ((j : Int) + 1) (by omega)
          clear hch
          by_cases hat : (j : Int) = at_
          · subst hat
            rcases hk with rfl | rfl | rfl | rfl | rfl
            rotate_left 4
            · go_wp2_with fail
              go_roundw
              case rel =>
                refine rel_of hj (lists_stop (h := wr.heap.size + 1 + 1 + 1 + 1) (p := wr.heap.size + 1) HR.out ?_ ?_ ⟨by omega, by omega⟩ ?_ (.inr (.inr (.inr (.inr (.inl ⟨?_, ?_, ?_, ?_, ⟨wr.heap.size + 1 + 1 + 1, 0, none⟩, ?_⟩))))))
                · exact (((((Ext.setL (Ext.refl _ _ _)).alloc _).alloc _).alloc _).alloc _).alloc _
                all_goals simp [go_sem, c1, z1, y2, y3, y4]
              case measure => simp [intOf]
            all_goals
              go_wp2_with fail
              go_roundw
              case rel =>
                refine rel_of hj (lists_stop (h := wr.heap.size + 1 + 1) (p := wr.heap.size + 1) HR.out ?_ ?_ ⟨by omega, by omega⟩ ?_ ?_)
                · exact (((Ext.setL (Ext.refl _ _ _)).alloc _).alloc _).alloc _
                · simp [go_sem, c1, z1, y2, y3, y4]
                · simp [go_sem]
                · first
                    | (refine .inl ?_; simp [go_sem]; done)
                    | (refine .inr (.inl ⟨?_, ?_⟩) <;> simp [go_sem] <;> done)
                    | (refine .inr (.inr (.inl ⟨?_, ?_, ?_⟩)) <;> simp [go_sem] <;> done)
                    | (refine .inr (.inr (.inr (.inl ⟨?_, ?_, ?_, ?_⟩))) <;> simp [go_sem] <;> done)
              case measure => simp [intOf]
          · have hat' : ((j : Int) == at_) = false := by simp [hat]
            clear hat
            go_wp2_with fail
            go_roundw
            case rel =>
              refine rel_of hj (lists_deep (h := wr.heap.size + 1 + 1) (p := wr.heap.size + 1) (q := wr.heap.size) HR.out ?_ HC.out ?_ ⟨by omega, by omega, by omega⟩ ?_ ⟨?_, ?_, ?_, ?_, ?_, ?_⟩ ?_)
              · exact (((Ext.setL (Ext.refl _ _ _)).alloc _).alloc _).alloc _
              all_goals simp [go_sem, c1, z1, y2, y3, y4]
            case measure => simp [intOf]
end Go.Proofs.Ytdhoamfpeioieaa
