/- Words of parts in memory: what unquoteParams does to them. Conditions: the cells. -/
import Derived.Test.YtdhoamfpeioieaaRpt
namespace Go.Proofs.Ytdhoamfpeioieaa
open Go.RowKit
set_option linter.unusedVariables false

/-- a part of a word: a pointer to one of four kinds of node -/
def Good (v : Value) : Prop := ∃ b : Nat, v = .iface 32 (.pointer (some ⟨b, 0, none⟩)) ∨ v = .iface 31 (.pointer (some ⟨b, 0, none⟩)) ∨ v = .iface 116 (.pointer (some ⟨b, 0, none⟩)) ∨ v = .iface 41 (.pointer (some ⟨b, 0, none⟩))
theorem Good.form {v : Value} (h : Good v) : ∃ T b, v = .iface T (.pointer (some ⟨b, 0, none⟩)) := by
  obtain ⟨b, rfl | rfl | rfl | rfl⟩ := h <;> exact ⟨_, b, rfl⟩
def RowV (w : World) (g n : Nat) (v : Nat → Value) : Prop := ∀ i, i < n → w.cell? ⟨g, i, none⟩ = some (v i) ∧ Good (v i)
theorem RowV.below {W w : World} {g n : Nat} {v : Nat → Value} (h : RowV W g n v) (hb : Below W.heap.size W w) : RowV w g n v := fun i hi => ⟨cell_below hb (h i hi).1, (h i hi).2⟩
set_option maxHeartbeats 400000 in
theorem sp_any (v : Value) (w : World) (h : Good v) : Calls Try.prog 29 #[v, v] w fun e w' => e = .returned (.bool true) ∧ w' = w := by
  have q1 := eqi_WordPart_Lit
  have q2 := eqi_WordPart_ParamExp
  have q3 := eqi_WordPart_CmdSubst
  have q4 := eqi_WordPart_DblQuoted
  obtain ⟨b, rfl | rfl | rfl | rfl⟩ := h
  all_goals
    go_enter Try.func29, Try.ntmps29
    go_wp2
    go_ret
    exact ⟨rfl, rfl⟩
set_option maxRecDepth 100000 in
set_option maxHeartbeats 1000000 in
theorem spp_any (g h n c d : Nat) (v : Nat → Value) (w : World) (hn : n ≤ 65536) (h1 : RowV w g n v) (h2 : RowV w h n v) :
    Calls Try.prog 19 #[.slice (some ⟨g, 0, none⟩) n c, .slice (some ⟨h, 0, none⟩) n d] w fun e w' => e = .returned (.bool true) ∧ Below w.heap.size w w' := by
  have H1 := Lib.hid h1
  have H2 := Lib.hid h2
  clear h1 h2
  go_enter Try.func19, Try.ntmps19
  go_wp2_with fail
  go_loopw [5] (fun i wr => ∃ k : Nat, k ≤ n ∧ i = .int .i64 k ∧ Below w.heap.size w wr) (fun i _ => n - (intOf i).toNat)
  case atStart => exact ⟨0, Nat.zero_le _, rfl, Below.refl _ _⟩
  case round =>
    obtain ⟨k, hk, rfl, hB⟩ := hrel
    by_cases hlt : k < n
    · have c1 := cell_below hB (H1.out k hlt).1
      have c2 := cell_below hB (H2.out k hlt).1
      have hg := Lib.hid (H1.out k hlt).2
      generalize v k = u at c1 c2 hg
      have z1 := World.block_lt_of_cell? _ _ c1
      have z2 := World.block_lt_of_cell? _ _ c2
      simp only at z1 z2
      go_wp2_with fail
      go_quiet ((go_at_call 29; exact Calls.quiet_of_same (sp_any _ _ hg.out)))
      go_wp2_with fail
      go_roundw
      case rel =>
        first
          | exact ⟨k + 1, by omega, by go_num, drewN_of hB⟩
          | ((repeat apply Exists.intro); exact ⟨⟨k + 1, by omega, by go_num, drewN_of hB⟩, rfl⟩)
      case measure => simp [intOf]; omega
    · obtain rfl : k = n := by omega
      go_wp2
      go_ret
      exact ⟨rfl, hB⟩
theorem infoW : (Try.prog.info? 102).map (fun i => (i.zero, i.size, i.bytes)) = some (some .nilIface, 1, 16) := by kernel_rfl
theorem mk_parts (n : Nat) (hn : n ≤ 65536) : ∀ W : World, (Instr.makeSlice 48 (.int .i64 (n : Int)) (.int .i64 (n : Int))).run Try.prog W = .ok (.slice (some ⟨W.heap.size, 0, none⟩) n n) (W.alloc (.cells (madeCells Value.nilIface.cells (n * 1)) 102)) := fun W => by
  obtain ⟨i0, hi, hz0, hz1, hz2⟩ := info_parts infoW
  have h := run_make_rowN (P := Try.prog) 48 102 i0 .nilIface Try.underlying48 hi hz0 .i64 .i64 n n (Nat.le_refl _) (by rw [hz2]; omega) (by omega) W
  rw [hz1] at h
  exact h
/-- a row being filled -/
def Fill (g n : Nat) (v : Nat → Value) (w0 : World) (k : Nat) (wr : World) : Prop :=
  wr.ownsRow g 102 1 (.slice (some ⟨g, 0, none⟩) n n) n (partV v .nilIface n k) ∧ Below g w0 wr ∧ g < wr.heap.size
theorem fill_start {w0 : World} {g n : Nat} {v : Nat → Value} {C : Array Value} (hg : w0.heap.size = g) (hn : n ≤ 65536) (hC : C.toList = List.replicate n .nilIface) : Fill g n v w0 0 (w0.alloc (.cells C 102)) := by
  subst hg
  refine ⟨?_, (Below.refl _ _).alloc (Nat.le_refl _) _, by simp⟩
  have h := World.ownsRow_lit (e := 102) (size := 1) (base := w0.heap.size) w0 C n (Nat.le_refl _) (by unfold maxLen; omega) (by have h2 := congrArg List.length hC; simpa using h2)
  rw [hC] at h
  rw [partV_zero]
  exact h
theorem fill_step {w0 wr : World} {g n k : Nat} {v : Nat → Value} (h : Fill g n v w0 k wr) (hk : k < n) : Fill g n v w0 (k + 1) (wr.setCell ⟨g, k, none⟩ (v k)) := by
  have hst := (h.1.stored k (v k)).1
  rw [partV_set _ _ n k hk] at hst
  exact ⟨hst, h.2.1.setCell (Nat.le_refl _) _, by simpa using h.2.2⟩
theorem fill_alloc {w0 wr : World} {g n k : Nat} {v : Nat → Value} (h : Fill g n v w0 k wr) (o : Obj) : Fill g n v w0 k (wr.alloc o) :=
  ⟨h.1.alloc _, h.2.1.alloc (Nat.le_of_lt h.2.2) _, by have := h.2.2; simp; omega⟩
theorem fill_row {w0 wr : World} {g n : Nat} {v : Nat → Value} (h : Fill g n v w0 n wr) (hv : ∀ i, i < n → Good (v i)) : RowV wr g n v := fun i hi =>
  ⟨by rw [h.1.cellAt i (by omega), partV_get _ _ _ _ hi], hv i hi⟩
set_option maxRecDepth 100000 in
set_option maxHeartbeats 1000000 in
theorem cpp_any (g n c : Nat) (v : Nat → Value) (w : World) (hn : n ≤ 65536) (h1 : RowV w g n v) :
    Calls Try.prog 17 #[.slice (some ⟨g, 0, none⟩) n c] w fun e w' => e = .returned (.slice (some ⟨w.heap.size, 0, none⟩) n n) ∧ RowV w' w.heap.size n v ∧ Below w.heap.size w w' := by
  have H1 := Lib.hid h1
  clear h1
  have hmk := mk_parts n hn
  go_enter Try.func17, Try.ntmps17
  go_wp2_with fail
  refine wp_gen (fun V => Fill w.heap.size n v w 0 V) (fill_start rfl hn (by first | exact made_cells _ _ rfl | exact toList_madeCells_one _ _ | simp [toList_madeCells_one])) ?_
  intro V hF
  have HF := Lib.hid hF
  clear hF hmk
  go_loopw [4] (fun i wr => ∃ k : Nat, k ≤ n ∧ i = .int .i64 k ∧ Hid (Fill w.heap.size n v w k wr)) (fun i _ => n - (intOf i).toNat)
  case atStart => exact ⟨0, Nat.zero_le _, rfl, HF⟩
  case round =>
    obtain ⟨k, hk, rfl, HR⟩ := hrel
    clear HF
    by_cases hlt : k < n
    · have c1 := cell_below HR.out.2.1 (H1.out k hlt).1
      have c2 : wr.cell? ⟨w.heap.size, k, none⟩ = some .nilIface := by
        rw [HR.out.1.cellAt k (by omega)]
        exact partV_at _ _ n k hlt
      have f2 := HR.out.1.frozenAt k
      obtain ⟨T, b, hu⟩ := (H1.out k hlt).2.form
      have HU := Lib.hid hu
      rw [hu] at c1
      clear hu
      have z1 := World.block_lt_of_cell? _ _ c1
      have z2 := World.block_lt_of_cell? _ _ c2
      simp only at z1 z2
      go_wp2
      go_roundw
      case rel => exact ⟨k + 1, by omega, by go_num, Lib.hid (by have := fill_step HR.out hlt; rw [HU.out] at this; exact this)⟩
      case measure => simp [intOf]; omega
    · obtain rfl : k = n := by omega
      go_wp2
      go_ret
      exact ⟨rfl, fill_row HR.out (fun i hi => (H1.out i hi).2), HR.out.2.1⟩
/-- the word at W has the parts v, and unquoteParams would leave it -/
def Calm (w : World) (W g n : Nat) (v : Nat → Value) : Prop :=
  n ≤ 65536 ∧ w.cell? ⟨W, 0, none⟩ = some (.slice (some ⟨g, 0, none⟩) n n) ∧ RowV w g n v ∧
    (n = 1 → (∀ b, v 0 ≠ .iface 41 (.pointer (some ⟨b, 0, none⟩))) ∨ ∃ b h m u, v 0 = .iface 41 (.pointer (some ⟨b, 0, none⟩)) ∧ w.cell? ⟨b, 5, none⟩ = some (.slice (some ⟨h, 0, none⟩) m m) ∧ m ≤ 65536 ∧ RowV w h m u ∧ (m = 1 → ∀ c, u 0 ≠ .iface 31 (.pointer (some ⟨c, 0, none⟩))))
theorem Calm.below {W w : World} {B g n : Nat} {v : Nat → Value} (h : Calm W B g n v) (hb : Below W.heap.size W w) : Calm w B g n v := by
  obtain ⟨h0, h1, h2, h3⟩ := h
  refine ⟨h0, cell_below hb h1, h2.below hb, fun e => (h3 e).imp id ?_⟩
  rintro ⟨b, h, m, u, k1, k2, k3, k4, k5⟩
  exact ⟨b, h, m, u, k1, cell_below hb k2, k3, k4.below hb, k5⟩
/-- .. or would put the one inner part in its place -/
def Loud (w : World) (W B : Nat) : Prop :=
  ∃ g b h c, (g < B ∧ b < B ∧ h < B ∧ W < B) ∧ w.cell? ⟨W, 0, none⟩ = some (.slice (some ⟨g, 0, none⟩) 1 1) ∧ w.cell? ⟨g, 0, none⟩ = some (.iface 41 (.pointer (some ⟨b, 0, none⟩))) ∧ w.cell? ⟨b, 5, none⟩ = some (.slice (some ⟨h, 0, none⟩) 1 1) ∧ w.cell? ⟨h, 0, none⟩ = some (.iface 31 (.pointer (some ⟨c, 0, none⟩))) ∧ w.frozen? ⟨W, 0, none⟩ = false ∧ h ≠ W
set_option maxRecDepth 100000 in
set_option maxHeartbeats 1000000 in
theorem uq_calm (sb W g n : Nat) (v : Nat → Value) (w : World) (h : Calm w W g n v) :
    Calls Try.prog 28 #[.pointer (some ⟨sb, 0, none⟩), .iface 30 (.pointer (some ⟨W, 0, none⟩))] w fun e w' => e = .returned (.iface 30 (.pointer (some ⟨W, 0, none⟩))) ∧ w' = w := by
  have t0 := as_TestExpr_Word_Word
  have t1 := as_WordPart_Lit_DblQuoted
  have t2 := as_WordPart_ParamExp_DblQuoted
  have t3 := as_WordPart_CmdSubst_DblQuoted
  have t4 := as_WordPart_DblQuoted_DblQuoted
  have t5 := as_WordPart_Lit_ParamExp
  have t6 := as_WordPart_CmdSubst_ParamExp
  have t7 := as_WordPart_DblQuoted_ParamExp
  obtain ⟨hn, c0, hr, hq⟩ := h
  have z0 := World.block_lt_of_cell? _ _ c0
  simp only at z0
  by_cases h1 : n = 1
  · subst h1
    have hq := hq rfl
    obtain ⟨c1, g1⟩ := hr 0 (by omega)
    clear hr
    obtain ⟨v0, hv0⟩ : ∃ v0, v 0 = v0 := ⟨_, rfl⟩
    rw [hv0] at c1 g1 hq
    clear hv0
    have z1 := World.block_lt_of_cell? _ _ c1
    simp only at z1
    obtain ⟨b, rfl | rfl | rfl | rfl⟩ := g1
    rotate_right 1
    · rcases hq with hq | ⟨b', h, m, u, e, c2, hm, hr, hq⟩
      · exact absurd rfl (hq b)
      · injection e with _ e
        injection e with e
        injection e with e
        injection e with e
        subst e
        have z2 := World.block_lt_of_cell? _ _ c2
        simp only at z2
        by_cases h2 : m = 1
        · subst h2
          have hq := hq rfl
          obtain ⟨c3, g3⟩ := hr 0 (by omega)
          clear hr
          generalize u 0 = u0 at c3 g3 hq
          have z3 := World.block_lt_of_cell? _ _ c3
          simp only at z3
          obtain ⟨b3, rfl | rfl | rfl | rfl⟩ := g3
          rotate_left 1
          · exact absurd rfl (hq b3)
          all_goals
            clear hq
            go_enter Try.func28, Try.ntmps28
            go_wp2
            go_ret
            exact ⟨rfl, rfl⟩
        · have e1 : ((m : Int) != 1) = true := by simp; omega
          have e2 : ((m : Int) == 1) = false := by simp; omega
          have HR := Lib.hid hr
          clear hr hq h2
          go_enter Try.func28, Try.ntmps28
          go_wp2
          go_ret
          exact ⟨rfl, rfl⟩
    all_goals
      clear hq
      go_enter Try.func28, Try.ntmps28
      go_wp2
      go_ret
      exact ⟨rfl, rfl⟩
  · have e1 : ((n : Int) != 1) = true := by simp; omega
    have e2 : ((n : Int) == 1) = false := by simp; omega
    have HR := Lib.hid hr
    clear hr hq h1
    go_enter Try.func28, Try.ntmps28
    go_wp2
    go_ret
    exact ⟨rfl, rfl⟩
set_option maxRecDepth 100000 in
set_option maxHeartbeats 1000000 in
theorem uq_loud (sb W : Nat) (w : World) (h : Loud w W sb) (hs : w.cell? ⟨sb, 0, none⟩ = some (.bool false)) (hf : w.frozen? ⟨sb, 0, none⟩ = false) :
    Calls Try.prog 28 #[.pointer (some ⟨sb, 0, none⟩), .iface 30 (.pointer (some ⟨W, 0, none⟩))] w fun e w' => e = .returned (.iface 30 (.pointer (some ⟨W, 0, none⟩))) ∧ w'.cell? ⟨sb, 0, none⟩ = some (.bool true) ∧ (∃ g v, Calm w' W g 1 v) ∧ Below W w w' := by
  have t0 := as_TestExpr_Word_Word
  have t4 := as_WordPart_DblQuoted_DblQuoted
  have t5 := as_WordPart_ParamExp_ParamExp
  obtain ⟨g, b, h, c, ⟨l1, l2, l3, hsW⟩, c0, c1, c2, c3, f0, hne⟩ := h
  have z0 := World.block_lt_of_cell? _ _ c0
  have z1 := World.block_lt_of_cell? _ _ c1
  have z2 := World.block_lt_of_cell? _ _ c2
  have z3 := World.block_lt_of_cell? _ _ c3
  have z4 := World.block_lt_of_cell? _ _ hs
  simp only at z0 z1 z2 z3 z4
  have n1 : g ≠ sb := by omega
  have n2 : b ≠ sb := by omega
  have n3 : h ≠ sb := by omega
  have n4 : W ≠ sb := by omega
  go_enter Try.func28, Try.ntmps28
  go_wp2
  go_ret
  refine ⟨rfl, ?_, ⟨h, fun _ => .iface 31 (.pointer (some ⟨c, 0, none⟩)), by omega, ?_, ?_, fun _ => .inl ?_⟩, ?_⟩
  · rw [World.cell?_setCell_other _ _ _ _ (fun e => by injection e with e; omega)]
    simp [go_sem, hs]
  · simp [go_sem, c0]
  · intro i hi
    obtain rfl : i = 0 := by omega
    refine ⟨?_, c, .inr (.inl rfl)⟩
    rw [World.cell?_setCell_other _ _ _ _ (fun e => by injection e with e; omega), World.cell?_setCell_other _ _ _ _ (fun e => by injection e with e; omega)]
    exact c3
  · intro b e
    injection e with e
    simp at e
  · exact ((Below.refl _ _).setCell (p := ⟨sb, 0, none⟩) (by show W ≤ sb; omega) _).setCell (p := ⟨W, 0, none⟩) (Nat.le_refl _) _
end Go.Proofs.Ytdhoamfpeioieaa
