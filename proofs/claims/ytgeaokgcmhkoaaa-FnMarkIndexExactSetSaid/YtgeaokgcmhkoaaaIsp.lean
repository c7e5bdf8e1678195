/- What inlineSimpleParams does to words. Conditions: the cells. -/
import Derived.Test.YtgeaokgcmhkoaaaPeDef
namespace Go.Proofs.Ytgeaokgcmhkoaaa
open Go.RowKit
set_option linter.unusedVariables false
set_option linter.unusedSimpArgs false

/-- a parameter expansion whose name and fields are known -/
def PeOk (w : World) (b l : Nat) (s : ByteArray) (t : Bool) : Prop := w.cell? ⟨b, 13, none⟩ = some (.pointer (some ⟨l, 0, none⟩)) ∧ w.cell? ⟨l, 4, none⟩ = some (.string s) ∧ s.size ≤ 1048576 ∧ SimpleIs w b t
theorem PeOk.below {w U : World} {b l : Nat} {s : ByteArray} {t : Bool} (h : PeOk w b l s t) (hb : Below w.heap.size w U) : PeOk U b l s t := ⟨cell_below hb h.1, cell_below hb h.2.1, h.2.2.1, h.2.2.2.below hb⟩
/-- a word that the method leaves -/
def StillW (w : World) (W : Nat) : Prop := ∃ g n : Nat, w.cell? ⟨W, 0, none⟩ = some (.slice (some ⟨g, 0, none⟩) n n) ∧ n ≤ 65536 ∧ (n = 1 → ∃ v, w.cell? ⟨g, 0, none⟩ = some v ∧
  ((∃ b : Nat, v = .iface 24 (.pointer (some ⟨b, 0, none⟩))) ∨ (∃ b : Nat, v = .iface 141 (.pointer (some ⟨b, 0, none⟩))) ∨ ∃ b : Nat, v = .iface 23 (.pointer (some ⟨b, 0, none⟩)) ∧ (w.cell? ⟨b, 13, none⟩ = some (.pointer none) ∨ ∃ l s t, PeOk w b l s t ∧ (vnB s && t) = false)))
theorem StillW.below {w U : World} {W : Nat} (h : StillW w W) (hb : Below w.heap.size w U) : StillW U W := by
  obtain ⟨g, n, h1, h2, h3⟩ := h
  refine ⟨g, n, cell_below hb h1, h2, fun e => ?_⟩
  obtain ⟨v, h4, h5⟩ := h3 e
  refine ⟨v, cell_below hb h4, ?_⟩
  rcases h5 with h5 | h5 | ⟨b, h5, h6⟩
  · exact .inl h5
  · exact .inr (.inl h5)
  · refine .inr (.inr ⟨b, h5, ?_⟩)
    rcases h6 with h6 | ⟨l, s, t, h6, h7⟩
    · exact .inl (cell_below hb h6)
    · exact .inr ⟨l, s, t, h6.below hb, h7⟩
/-- .. and one that it turns -/
def LoudW (w : World) (W B : Nat) : Prop := ∃ g b l : Nat, ∃ s, b < B ∧ w.cell? ⟨W, 0, none⟩ = some (.slice (some ⟨g, 0, none⟩) 1 1) ∧ w.cell? ⟨g, 0, none⟩ = some (.iface 23 (.pointer (some ⟨b, 0, none⟩))) ∧ PeOk w b l s true ∧ vnB s = true
theorem LoudW.below {w U : World} {W B : Nat} (h : LoudW w W B) (hb : Below w.heap.size w U) : LoudW U W B := by
  obtain ⟨g, b, l, s, hB, h1, h2, h3, h4⟩ := h
  exact ⟨g, b, l, s, hB, cell_below hb h1, cell_below hb h2, h3.below hb, h4⟩
set_option maxRecDepth 100000 in
set_option maxHeartbeats 2000000 in
theorem isp_still (sb W : Nat) (w : World) (h : StillW w W) :
    Calls Try.prog 21 #[.pointer (some ⟨sb, 0, none⟩), .iface 42 (.pointer (some ⟨W, 0, none⟩))] w fun e w' => e = .returned (.iface 42 (.pointer (some ⟨W, 0, none⟩))) ∧ Below w.heap.size w w' := by
  have t0 := as_ArithmExpr_Word_Word
  have t1 := as_WordPart_Lit_ParamExp
  have t2 := as_WordPart_DblQuoted_ParamExp
  have t3 := as_WordPart_ParamExp_ParamExp
  obtain ⟨g, n, c0, hn, h1⟩ := h
  have z0 := World.block_lt_of_cell? _ _ c0
  simp only at z0
  by_cases e1 : n = 1
  · subst e1
    obtain ⟨v, c1, hv⟩ := h1 rfl
    have z1 := World.block_lt_of_cell? _ _ c1
    simp only at z1
    clear h1
    rcases hv with ⟨b, rfl⟩ | ⟨b, rfl⟩ | ⟨b, rfl, hp⟩
    · go_enter Try.func21, Try.ntmps21
      go_wp2_with fail
      go_ret
      exact ⟨rfl, Below.refl _ _⟩
    · go_enter Try.func21, Try.ntmps21
      go_wp2_with fail
      go_ret
      exact ⟨rfl, Below.refl _ _⟩
    · rcases hp with c2 | ⟨l, s, t, ⟨c2, c3, hs, hsim⟩, hvt⟩
      · have z2 := World.block_lt_of_cell? _ _ c2
        simp only at z2
        go_enter Try.func21, Try.ntmps21
        go_wp2_with fail
        go_ret
        exact ⟨rfl, Below.refl _ _⟩
      · have z2 := World.block_lt_of_cell? _ _ c2
        have z3 := World.block_lt_of_cell? _ _ c3
        simp only at z2 z3
        have HSim := Lib.hid hsim
        obtain ⟨V, eV⟩ : ∃ V, vnB s = V := ⟨_, rfl⟩
        rw [eV] at hvt
        have EV := Lib.hid eV
        clear hsim eV
        cases V
        · go_enter Try.func21, Try.ntmps21
          go_wp2_with fail
          refine (vn_any s _ hs).mono ?_
          rintro e w1 ⟨rfl, hb1⟩
          rw [EV.out]
          go_wp2_with fail
          go_ret
          exact ⟨rfl, hb1⟩
        · obtain rfl : t = false := by simpa using hvt
          go_enter Try.func21, Try.ntmps21
          go_wp2_with fail
          refine (vn_any s _ hs).mono ?_
          rintro e w1 ⟨rfl, hb1⟩
          rw [EV.out]
          go_wp2_with fail
          refine (HSim.out _ hb1).mono ?_
          rintro e w2 ⟨rfl, hb2⟩
          go_wp2_with fail
          go_ret
          exact ⟨rfl, below_next hb1 hb2⟩
  · have e2 : ((n : Int) != 1) = true := by simp; omega
    have e3 : ((n : Int) == 1) = false := by simp; omega
    have H1 := Lib.hid h1
    clear h1 e1
    go_enter Try.func21, Try.ntmps21
    go_wp2_with fail
    go_ret
    exact ⟨rfl, Below.refl _ _⟩
theorem below_alloc {B : Nat} {a w : World} (h : Below B a w) (hB : B ≤ w.heap.size) (o : Obj) : Below B a (w.alloc o) := h.alloc hB o
set_option maxRecDepth 100000 in
set_option maxHeartbeats 2000000 in
theorem isp_loud (sb W : Nat) (w : World) (h : LoudW w W sb) (hs0 : w.cell? ⟨sb, 0, none⟩ = some (.bool false)) (hf0 : w.frozen? ⟨sb, 0, none⟩ = false) :
    Calls Try.prog 21 #[.pointer (some ⟨sb, 0, none⟩), .iface 42 (.pointer (some ⟨W, 0, none⟩))] w fun e w' => ∃ N : Nat, e = .returned (.iface 42 (.pointer (some ⟨N, 0, none⟩))) ∧ StillW w' N ∧ w'.cell? ⟨sb, 0, none⟩ = some (.bool true) ∧ Below sb w w' := by
  have t0 := as_ArithmExpr_Word_Word
  have t3 := as_WordPart_ParamExp_ParamExp
  obtain ⟨g, b, l, s, hbs, c0, c1, ⟨c2, c3, hs, hsim⟩, hv⟩ := h
  have z0 := World.block_lt_of_cell? _ _ c0
  have z1 := World.block_lt_of_cell? _ _ c1
  have z2 := World.block_lt_of_cell? _ _ c2
  have z3 := World.block_lt_of_cell? _ _ c3
  have z4 := World.block_lt_of_cell? _ _ hs0
  simp only at z0 z1 z2 z3 z4
  have HSim := Lib.hid hsim
  have EV := Lib.hid hv
  have HK := Lib.hid (show ∀ W, Below w.heap.size w W → W.cell? ⟨b, 13, none⟩ = some (.pointer (some ⟨l, 0, none⟩)) ∧ W.cell? ⟨sb, 0, none⟩ = some (.bool false) ∧ W.frozen? ⟨sb, 0, none⟩ = false ∧ b < W.heap.size ∧ sb < W.heap.size from fun W hW =>
    ⟨cell_below hW c2, cell_below hW hs0, by rw [hW.frozen (p := ⟨sb, 0, none⟩) z4]; exact hf0, Nat.lt_of_lt_of_le z2 hW.size, Nat.lt_of_lt_of_le z4 hW.size⟩)
  clear hsim hv
  go_enter Try.func21, Try.ntmps21
  go_wp2_with fail
  refine (vn_any s _ hs).mono ?_
  rintro e w1 ⟨rfl, hb1⟩
  rw [EV.out]
  go_wp2_with fail
  refine (HSim.out _ hb1).mono ?_
  rintro e w2 ⟨rfl, hb2⟩
  have H2 := Lib.hid (below_next hb1 hb2)
  clear hb1 hb2 c0 c1 c2 c3 hs0 hf0 z0 z1 z2 z3
  obtain ⟨c2, hs0, hf0, z2, zs⟩ := HK.out _ H2.out
  have y1 : sb < w2.heap.size + 1 := by omega
  have y2 : sb < w2.heap.size + 1 + 1 := by omega
  have hne : b ≠ sb := by omega
  have hle : sb ≤ w.heap.size := by omega
  go_wp2_with fail
  go_ret
  refine ⟨_, rfl, ⟨w2.heap.size, 1, by simp [go_sem], by omega, fun _ => ⟨.iface 24 (.pointer (some ⟨l, 0, none⟩)), by simp [go_sem], .inl ⟨l, rfl⟩⟩⟩, by simp [go_sem, hs0, zs, y1, y2], ?_⟩
  have hB1 := (H2.out.mono hle).setCell (p := ⟨sb, 0, none⟩) (Nat.le_refl _) (.bool true)
  have hB2 := below_alloc hB1 (by simp; omega) (.cells #[.iface 24 (.pointer (some ⟨l, 0, none⟩))] 32)
  exact below_alloc hB2 (Nat.le_trans (Nat.le_of_lt zs) (by simp)) _
end Go.Proofs.Ytgeaokgcmhkoaaa
