/- The simplifier of the law: its flag, its empty map, and what its two methods do to a node's expression. Conditions: the cells. -/
import Derived.Test.YtgeaokgcmhkoaaaIsp
namespace Go.Proofs.Ytgeaokgcmhkoaaa
open Go.RowKit
set_option linter.unusedVariables false
set_option linter.unusedSimpArgs false

/-- the simplifier at block b, its map at block c, its flag m -/
def Simp (w : World) (b c : Nat) (m : Bool) : Prop := w.cell? ⟨b, 0, none⟩ = some (.bool m) ∧ w.cell? ⟨b, 1, none⟩ = some (.map (some c)) ∧ w.frozen? ⟨b, 0, none⟩ = false ∧ w.heap[c]? = some (.map #[] 0) ∧ c < b
theorem Simp.lt {w : World} {b c : Nat} {m : Bool} (h : Simp w b c m) : b < w.heap.size := by have := World.block_lt_of_cell? _ _ h.1; simpa using this
theorem Simp.keep {w w' : World} {b c : Nat} {m : Bool} (h : Simp w b c m) (hb : w'.heap[b]? = w.heap[b]?) (hc : w'.heap[c]? = w.heap[c]?) : Simp w' b c m := by
  obtain ⟨h1, h2, h3, h4, h5⟩ := h
  exact ⟨by rw [World.cell?_of_block (w := w) hb]; exact h1, by rw [World.cell?_of_block (w := w) hb]; exact h2, by rw [World.frozen?_of_block (w := w) hb]; exact h3, by rw [hc]; exact h4, h5⟩
theorem Simp.below {w w' : World} {b c : Nat} {m : Bool} (h : Simp w b c m) (hb : Below w.heap.size w w') : Simp w' b c m :=
  h.keep (hb.5 b h.lt) (hb.5 c (by have := h.lt; have := h.2.2.2.2; omega))
theorem Simp.set {w : World} {b c d o : Nat} {m : Bool} {v : Value} (h : Simp w b c m) (hd : d ≠ b) (hc : d ≠ c) : Simp (w.setCell ⟨d, o, none⟩ v) b c m :=
  h.keep (Below.heap_setCell _ _ _ _ (fun e => hd (by simpa using e.symm))) (Below.heap_setCell _ _ _ _ (fun e => hc (by simpa using e.symm)))
theorem gset {w a : World} {P o : Nat} {v : Value} (h : w.grownBy a (some P)) : w.grownBy (a.setCell ⟨P, o, none⟩ v) (some P) :=
  ⟨h.os, h.tape, h.output, by simpa using h.size, fun k hk hne => by rw [Below.heap_setCell _ _ _ _ (fun e => hne (by rw [e]))]; exact h.block k hk hne⟩
theorem galloc {w a : World} {row : Option Nat} (h : w.grownBy a row) (o : Obj) : w.grownBy (a.alloc o) row :=
  ⟨h.os, h.tape, h.output, by have := h.size; simp; omega, fun k hk hne => by rw [Below.heap_alloc _ _ _ (Nat.lt_of_lt_of_le hk h.size)]; exact h.block k hk hne⟩
theorem gtrans {a b c : World} {row : Option Nat} (h : a.grownBy b row) (k : b.grownBy c row) : a.grownBy c row :=
  ⟨k.os.trans h.os, k.tape.trans h.tape, k.output.trans h.output, Nat.le_trans h.size k.size, fun i hi hne => (k.block i (Nat.lt_of_lt_of_le hi h.size) hne).trans (h.block i hi hne)⟩
theorem gcell {w w' : World} {P b o : Nat} {v : Value} (h : w.grownBy w' (some P)) (hc : w.cell? ⟨b, o, none⟩ = some v) (hne : b ≠ P) : w'.cell? ⟨b, o, none⟩ = some v := by
  have hz := World.block_lt_of_cell? _ _ hc
  rw [World.cell?_of_block (h.block b (by simpa using hz) (fun e => hne (by injection e)))]
  exact hc
theorem gfree {w w' : World} {P b o : Nat} (h : w.grownBy w' (some P)) (hb : b < w.heap.size) (hne : b ≠ P) : w'.frozen? ⟨b, o, none⟩ = w.frozen? ⟨b, o, none⟩ :=
  World.frozen?_of_block (h.block b hb (fun e => hne (by injection e)))
theorem Simp.turn {w : World} {b c : Nat} {m n : Bool} (h : Simp w b c m) : Simp (w.setCell ⟨b, 0, none⟩ (.bool n)) b c n := by
  have hz := h.lt
  obtain ⟨h1, h2, h3, h4, h5⟩ := h
  refine ⟨by simp [go_sem, h1], by simp [go_sem, h2], by simp [go_sem, h3], ?_, h5⟩
  rw [Below.heap_setCell _ _ _ _ (fun e => by simp at e; omega)]
  exact h4
theorem Simp.only {w w' : World} {b c d : Nat} {m : Bool} (h : Simp w b c m) (hg : w.grownBy w' (some d)) (hd : d ≠ b) (hc : d ≠ c) : Simp w' b c m :=
  h.keep (hg.block b h.lt (fun e => hd (by injection e with e; exact e.symm))) (hg.block c (by have := h.lt; have := h.2.2.2.2; omega) (fun e => hc (by injection e with e; exact e.symm)))
theorem heap_new (w : World) (o : Obj) {n : Nat} (hn : n = w.heap.size) : (w.alloc o).heap[n]? = some o := by
  subst hn
  show (w.heap.push o)[w.heap.size]? = _
  simp
def RPost (sb c : Nat) (v0 : Value) (m : Bool) (w : World) (e : Ending) (w' : World) : Prop := e = .returned v0 ∧ Simp w' sb c m ∧ w.grownBy w' (some sb)
set_option maxRecDepth 100000 in
set_option maxHeartbeats 1000000 in
theorem rp_any (sb c lo : Nat) (v0 x : Value) (k : Nat) (m0 : Bool) (w : World) (hs : Simp w sb c m0) (hch : Chain 48 w lo sb v0 k x)
    (hv : ∀ W : World, (Instr.typeAssert v0 34 48 true).run Try.prog W = .ok (.tuple #[.pointer none, .bool false]) W) :
    Calls Try.prog 20 #[.pointer (some ⟨sb, 0, none⟩), x] w (RPost sb c v0 (m0 || decide (0 < k)) w) := by
  have hy := as_ArithmExpr_ParenArithm_ParenArithm
  have hsz := hs.lt
  have H := Lib.hid (show Chain 48 w lo sb v0 k x ∧ w.grownBy w (some sb) ∧ Simp w sb c (m0 || decide (k < k)) ∧ k ≤ k from ⟨hch, World.grownBy.refl _ _, by simpa using hs, Nat.le_refl _⟩)
  clear hs hch
  go_enter Try.func20, Try.ntmps20
  go_wp2_with fail
  go_loopg [1] k (fun j xv wr => Hid (Chain 48 wr lo sb v0 j xv ∧ w.grownBy wr (some sb) ∧ Simp wr sb c (m0 || decide (j < k)) ∧ j ≤ k))
  case atStart => exact H
  case round =>
    clear H
    have hsz : sb < wr.heap.size := hrel.out.2.2.1.lt
    cases gk with
    | zero =>
      obtain rfl : _ = v0 := hrel.out.1
      go_wp2
      go_ret
      exact ⟨rfl, hrel.out.2.2.1, hrel.out.2.1⟩
    | succ j =>
      obtain ⟨hch, hG, hS, hjk⟩ := hrel.out
      obtain ⟨b, y, rfl, hl, hh, hcell, hr⟩ := hch
      have HR := Lib.hid hr
      have HG := Lib.hid hG
      have HS := Lib.hid hS
      have hf0 := hS.2.2.1
      have hc0 := hS.1
      obtain ⟨mm, em⟩ : ∃ mm, (m0 || decide (j + 1 < k)) = mm := ⟨_, rfl⟩
      rw [em] at hc0
      clear hr hG hS hrel em
      have hbs : b ≠ sb := by omega
      have hbz : b < wr.heap.size := by omega
      go_wp2
      go_roundg j
      case rel =>
        refine Lib.hid ⟨Chain.keep (fun b v hl hh h => ?_) (Nat.le_refl _) (Nat.le_refl _) j y HR.out, gset HG.out, ?_, by omega⟩
        · rw [World.cell?_setCell_other _ _ _ _ (fun e => by injection e with e; omega)]
          exact h
        · have e : (m0 || decide (j < k)) = true := by simp; right; omega
          rw [e]
          exact HS.out.turn
      case measure => omega
/-- what the word has become -/
def NewW (w' : World) (lo W N l : Nat) (I : Bool) : Prop := (I = false ∧ N = W) ∨ (I = true ∧ lo ≤ N ∧ ∃ g, ∃ C T, w'.cell? ⟨N, 0, none⟩ = some (.slice (some ⟨g, 0, none⟩) 1 1) ∧ w'.cell? ⟨g, 0, none⟩ = some (.iface 24 (.pointer (some ⟨l, 0, none⟩))) ∧ lo ≤ g ∧ w'.heap[N]? = some (.cells C T (0, 0)))
theorem NewW.keep {w w' : World} {lo W N l : Nat} {I : Bool} (h : NewW w lo W N l I) (hk : ∀ b, lo ≤ b → b < w.heap.size → w'.heap[b]? = w.heap[b]?) : NewW w' lo W N l I := by
  rcases h with h | ⟨e, hl, g, C, T, c0, c1, hg, hb⟩
  · exact .inl h
  · have z0 := World.block_lt_of_cell? _ _ c0
    have z1 := World.block_lt_of_cell? _ _ c1
    simp only at z0 z1
    exact .inr ⟨e, hl, g, C, T, by rw [World.cell?_of_block (w := w) (hk N hl z0)]; exact c0, by rw [World.cell?_of_block (w := w) (hk g hg z1)]; exact c1, hg, by rw [hk N hl z0]; exact hb⟩
theorem NewW.low {w : World} {lo lo' W N l : Nat} {I : Bool} (h : NewW w lo W N l I) (hl : lo' ≤ lo) : NewW w lo' W N l I := by
  rcases h with h | ⟨e, h1, g, C, T, c0, c1, hg, hb⟩
  · exact .inl h
  · exact .inr ⟨e, by omega, g, C, T, c0, c1, by omega, hb⟩
/-- a word that is turned where I is true -/
def WordIs (w : World) (W l : Nat) (I : Bool) : Prop := (I = false ∧ StillW w W) ∨ (I = true ∧ ∃ g b : Nat, ∃ s, w.cell? ⟨W, 0, none⟩ = some (.slice (some ⟨g, 0, none⟩) 1 1) ∧ w.cell? ⟨g, 0, none⟩ = some (.iface 23 (.pointer (some ⟨b, 0, none⟩))) ∧ PeOk w b l s true ∧ vnB s = true)
theorem WordIs.below {w U : World} {W l : Nat} {I : Bool} (h : WordIs w W l I) (hb : Below w.heap.size w U) : WordIs U W l I := by
  rcases h with ⟨e, h⟩ | ⟨e, g, b, s, h1, h2, h3, h4⟩
  · exact .inl ⟨e, h.below hb⟩
  · exact .inr ⟨e, g, b, s, cell_below hb h1, cell_below hb h2, h3.below hb, h4⟩
def IPost (sb c lo W l : Nat) (I m : Bool) (w : World) (e : Ending) (w' : World) : Prop := ∃ N, e = .returned (.iface 42 (.pointer (some ⟨N, 0, none⟩))) ∧ Simp w' sb c m ∧ w.grownBy w' (some sb) ∧ NewW w' lo W N l I
theorem only_below {w w' : World} (hb : Below w.heap.size w w') (row : Option Nat) : w.grownBy w' row := ⟨hb.1, hb.2, hb.3, hb.4, fun k hk _ => hb.5 k hk⟩
set_option maxRecDepth 100000 in
set_option maxHeartbeats 2000000 in
theorem isp_any (sb c W l : Nat) (I m0 : Bool) (V w : World) (hw : WordIs V W l I) (hV : Below V.heap.size V w) (hs : Simp w sb c m0) (hsb : V.heap.size ≤ sb) :
    Calls Try.prog 21 #[.pointer (some ⟨sb, 0, none⟩), .iface 42 (.pointer (some ⟨W, 0, none⟩))] w (IPost sb c w.heap.size W l I (m0 || I) w) := by
  rcases hw with ⟨rfl, hst⟩ | ⟨rfl, g, b, s, c0, c1, ⟨c2, c3, hs1, hsim⟩, hv⟩
  · refine (isp_still sb W w (hst.below hV)).mono fun e w' ⟨he, hb⟩ => ⟨W, he, ?_, only_below hb _, .inl ⟨rfl, rfl⟩⟩
    rw [Bool.or_false]
    exact hs.below hb
  · have t0 := as_ArithmExpr_Word_Word
    have t3 := as_WordPart_ParamExp_ParamExp
    have hbV : b < V.heap.size := by have := World.block_lt_of_cell? _ _ c2; simpa using this
    have c0 := cell_below hV c0
    have c1 := cell_below hV c1
    have c2 := cell_below hV c2
    have c3 := cell_below hV c3
    have z0 := World.block_lt_of_cell? _ _ c0
    have z1 := World.block_lt_of_cell? _ _ c1
    have z2 := World.block_lt_of_cell? _ _ c2
    have z3 := World.block_lt_of_cell? _ _ c3
    simp only at z0 z1 z2 z3
    have HSim := Lib.hid (hsim.below hV)
    have EV := Lib.hid hv
    have HS := Lib.hid hs
    have zs := hs.lt
    have HK := Lib.hid (show ∀ U, Below w.heap.size w U → U.cell? ⟨b, 13, none⟩ = some (.pointer (some ⟨l, 0, none⟩)) ∧ U.cell? ⟨sb, 0, none⟩ = some (.bool m0) ∧ U.frozen? ⟨sb, 0, none⟩ = false ∧ b < U.heap.size ∧ sb < U.heap.size from fun U hU =>
      ⟨cell_below hU c2, (HS.out.below hU).1, (HS.out.below hU).2.2.1, Nat.lt_of_lt_of_le z2 hU.size, Nat.lt_of_lt_of_le zs hU.size⟩)
    have HV := Lib.hid hV
    clear hsim hv hs hV
    rw [Bool.or_true]
    go_enter Try.func21, Try.ntmps21
    go_wp2_with fail
    refine (vn_any s _ hs1).mono ?_
    rintro e w1 ⟨rfl, hb1⟩
    rw [EV.out]
    go_wp2_with fail
    refine (HSim.out _ hb1).mono ?_
    rintro e w2 ⟨rfl, hb2⟩
    have H2 := Lib.hid (below_next hb1 hb2)
    clear hb1 hb2 c0 c1 c2 c3 z0 z1 z2 z3
    have hz2 := H2.out.size
    obtain ⟨c2, hs0, hf0, z2, zs2⟩ := HK.out _ H2.out
    have y1 : sb < w2.heap.size + 1 := by omega
    have y2 : sb < w2.heap.size + 1 + 1 := by omega
    have hne : b ≠ sb := by omega
    go_wp2_with fail
    go_ret
    refine ⟨_, rfl, ?_, ?_, .inr ⟨rfl, ?_, w2.heap.size, _, _, by simp [go_sem], by simp [go_sem], ?_, heap_new _ _ (by simp)⟩⟩
    · exact ((HS.out.below H2.out).turn (n := true)).below (((Below.refl _ _).alloc (Nat.le_refl _) _).alloc (by simp) _)
    · exact galloc (galloc (gset (only_below H2.out (some sb))) _) _
    · omega
    · omega
/-- a node that the method leaves as it is -/
theorem isp_no (sb : Nat) (x : Value) (w : World) (h : ∀ W : World, (Instr.typeAssert x 34 42 true).run Try.prog W = .ok (.tuple #[.pointer none, .bool false]) W) :
    Calls Try.prog 21 #[.pointer (some ⟨sb, 0, none⟩), x] w fun e w' => e = .returned x ∧ w = w' := by
  go_enter Try.func21, Try.ntmps21
  go_wp2_with fail
  go_ret
  exact ⟨rfl, rfl⟩
set_option maxHeartbeats 1000000 in
theorem news_any (w : World) : Calls Try.prog 8 #[] w fun e w' => e = .returned (.pointer (some ⟨w.heap.size + 1, 0, none⟩)) ∧ Simp w' (w.heap.size + 1) w.heap.size false ∧ Below w.heap.size w w' ∧ w'.heap.size = w.heap.size + 1 + 1 := by
  have hmm := @run_makeMap Try.prog
  go_enter Try.func8, Try.ntmps8
  go_wp2
  go_ret
  refine ⟨rfl, ⟨by simp [go_sem], by simp [go_sem], by simp [go_sem], ?_, by omega⟩, by go_grown, by simp⟩
  rw [Below.heap_alloc _ _ _ (by simp)]
  show (w.heap.push _)[w.heap.size]? = _
  simp
end Go.Proofs.Ytgeaokgcmhkoaaa
