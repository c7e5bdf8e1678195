/- A fresh parser. Conditions: none. -/
import Derived.Test.YtdmmpgeaendjpaaOwn
import Derived.Deep.QuietTactic
import Derived.BigQuiet
import Derived.Deep.RegionHeld3
import Derived.Laws.Tables
namespace Go.Proofs.Ytdmmpgeaendjpaa
open Go.RowKit
set_option linter.unusedVariables false
set_option linter.unusedSimpArgs false

theorem cell_below {W w : World} {a : Addr} {v : Value} (hb : Below W.heap.size W w) (h : W.cell? a = some v) : w.cell? a = some v := by
  rw [hb.cell (World.block_lt_of_cell? W a h)]; exact h
theorem drewN_of {B : Nat} {w W : World} {n : Nat} (h : Below B w W) : Below B w (W.drewN n) := h.trans ⟨rfl, rfl, rfl, Nat.le_refl _, fun _ _ => rfl⟩
theorem wp_gen {P : Program} {c : Code} {Q : Exit → Act → World → Prop} {a : Act} {W : World} (R : World → Prop) (h : R W) (k : ∀ W', R W' → c.wp P Q a W') : c.wp P Q a W := k W h
/-- a struct built: the cells by the program's own table -/
theorem wpList_build {P : Program} (w : World) {ops : Array Oper} {rest : List Oper} {o : Oper} {a : Act} {Q : Exit → Act → World → Prop}
    (hg : o.guard = none) (t : TypeId) (i : Nat) (x : Operand) (hop : o.op = Op.build t #[(i, x)]) (C : Array Value) (hC : P.built t [(i, a.eval x)] = some C)
    (hK : wpList P ops Q rest (a.put o.dst (.agg C)) w) : wpList P ops Q (o :: rest) a w := by
  refine wpList_plain hg fun K hK' => ?_
  have hr := run_build (P := P) w t #[(i, a.eval x)] C hC
  unfold Oper.wp
  simp only [execOp, hop]
  simp [hr, Result.andThen]
  exact hK' _ _ hK
theorem built_np : ∃ C, Try.prog.built 75 [(19, .int .i64 1)] = some C ∧ C[17]? = some (.int .u32 0) ∧ C[25]? = some (.int .i64 0) ∧ C[26]? = some (.slice none 0 0) := by
  have h1 : (Try.prog.built 75 [(19, .int .i64 1)]).isSome = true := by kernel_rfl
  have h2 : (Try.prog.built 75 [(19, .int .i64 1)]).bind (·[17]?) = some (.int .u32 0) := by kernel_rfl
  have h3 : (Try.prog.built 75 [(19, .int .i64 1)]).bind (·[25]?) = some (.int .i64 0) := by kernel_rfl
  have h4 : (Try.prog.built 75 [(19, .int .i64 1)]).bind (·[26]?) = some (.slice none 0 0) := by kernel_rfl
  obtain ⟨C, hC⟩ := Option.isSome_iff_exists.1 h1
  rw [hC] at h2 h3 h4
  exact ⟨C, hC, h2, h3, h4⟩
/-- the parser at block P: its quote state, its mark, no here-documents -/
def ParAt (w : World) (P : Nat) (q : Int) : Prop := w.cell? ⟨P, 17, none⟩ = some (.int .u32 q) ∧ w.cell? ⟨P, 25, none⟩ = some (.int .i64 0) ∧ w.cell? ⟨P, 26, none⟩ = some (.slice none 0 0) ∧ w.frozen? ⟨P, 17, none⟩ = false ∧ w.frozen? ⟨P, 25, none⟩ = false
set_option maxRecDepth 1000000 in
set_option maxHeartbeats 1000000 in
theorem np_any (w : World) :
    Calls Try.prog 12 #[.slice none 0 0] w fun e w' => e = .returned (.pointer (some ⟨w.heap.size, 0, none⟩)) ∧ ParAt w' w.heap.size 0 ∧ Below w.heap.size w w' ∧ w'.heap.size = w.heap.size + 1 := by
  obtain ⟨C, hC, h17, h25, h26⟩ := built_np
  go_enter Try.func12, Try.ntmps12
  go_wp2_with (refine wpList_build _ rfl 75 19 _ rfl C hC ?_)
  go_loopw [10] (fun i wr => i = .int .i64 0 ∧ wr = w.alloc (.cells C 75)) (fun _ _ => 0)
  case atStart => exact ⟨rfl, rfl⟩
  case round =>
    obtain ⟨rfl, rfl⟩ := hrel
    go_wp2_with fail
    go_ret
    refine ⟨rfl, ⟨by simp [go_sem, h17], by simp [go_sem, h25], by simp [go_sem, h26], by simp [go_sem], by simp [go_sem]⟩, by go_grown, by simp⟩
set_option maxHeartbeats 1000000 in
theorem zq_any (P : Nat) (q : Int) (w : World) (h : ParAt w P q) (hq : 0 ≤ q ∧ q ≤ 4294967295) : Calls Try.prog 21 #[.pointer (some ⟨P, 0, none⟩)] w fun e w' => e = .returned (.int .u32 q) ∧ w' = w := by
  obtain ⟨c17, c25, c26, f17, f25⟩ := h
  have z := World.block_lt_of_cell? _ _ c17
  simp only at z
  go_enter Try.func21, Try.ntmps21
  go_wp2_with fail
  go_ret
  exact ⟨rfl, rfl⟩
set_option maxHeartbeats 1000000 in
theorem zbu_any (P : Nat) (q : Int) (w : World) (h : ParAt w P q) : Calls Try.prog 22 #[.pointer (some ⟨P, 0, none⟩)] w fun e w' => e = .returned (.int .i64 0) ∧ w' = w := by
  obtain ⟨c17, c25, c26, f17, f25⟩ := h
  have z := World.block_lt_of_cell? _ _ c17
  simp only at z
  go_enter Try.func22, Try.ntmps22
  go_wp2_with fail
  go_ret
  exact ⟨rfl, rfl⟩
set_option maxHeartbeats 1000000 in
theorem zh_any (P : Nat) (q : Int) (w : World) (h : ParAt w P q) : Calls Try.prog 20 #[.pointer (some ⟨P, 0, none⟩)] w fun e w' => e = .returned (.int .i64 0) ∧ w' = w := by
  obtain ⟨c17, c25, c26, f17, f25⟩ := h
  have z := World.block_lt_of_cell? _ _ c17
  simp only at z
  go_enter Try.func20, Try.ntmps20
  go_wp2_with fail
  go_ret
  exact ⟨rfl, rfl⟩
theorem gset {w a : World} {P o : Nat} {v : Value} (h : w.grownBy a (some P)) : w.grownBy (a.setCell ⟨P, o, none⟩ v) (some P) :=
  ⟨h.os, h.tape, h.output, by simpa using h.size, fun k hk hne => by rw [Below.heap_setCell _ _ _ _ (fun e => hne (by rw [e]))]; exact h.block k hk hne⟩
theorem galloc {w a : World} {row : Option Nat} (h : w.grownBy a row) (o : Obj) : w.grownBy (a.alloc o) row :=
  ⟨h.os, h.tape, h.output, by have := h.size; simp; omega, fun k hk hne => by rw [Below.heap_alloc _ _ _ (Nat.lt_of_lt_of_le hk h.size)]; exact h.block k hk hne⟩
theorem gdrew {w a : World} {row : Option Nat} (h : w.grownBy a row) : w.grownBy a.drew row := ⟨h.os, h.tape, h.output, h.size, h.block⟩
theorem gtrans {a b c : World} {row : Option Nat} (h : a.grownBy b row) (k : b.grownBy c row) : a.grownBy c row :=
  ⟨k.os.trans h.os, k.tape.trans h.tape, k.output.trans h.output, Nat.le_trans h.size k.size, fun i hi hne => (k.block i (Nat.lt_of_lt_of_le hi h.size) hne).trans (h.block i hi hne)⟩
theorem gnew {w a : World} {row : Option Nat} {c o : Nat} {v : Value} (h : w.grownBy a row) (hc : w.heap.size ≤ c) : w.grownBy (a.setCell ⟨c, o, none⟩ v) row :=
  ⟨h.os, h.tape, h.output, by simpa using h.size, fun k hk hne => by rw [Below.heap_setCell _ _ _ _ (fun e => by simp at e; omega)]; exact h.block k hk hne⟩
theorem ParAt.keep {w a : World} {P : Nat} {q : Int} (h : ParAt w P q) (hb : a.heap[P]? = w.heap[P]?) : ParAt a P q := by
  have hc : ∀ o, a.cell? ⟨P, o, none⟩ = w.cell? ⟨P, o, none⟩ := fun o => World.cell?_of_block hb
  have hf : ∀ o, a.frozen? ⟨P, o, none⟩ = w.frozen? ⟨P, o, none⟩ := fun o => World.frozen?_of_block hb
  exact ⟨by rw [hc]; exact h.1, by rw [hc]; exact h.2.1, by rw [hc]; exact h.2.2.1, by rw [hf]; exact h.2.2.2.1, by rw [hf]; exact h.2.2.2.2⟩
theorem ParAt.lt {w : World} {P : Nat} {q : Int} (h : ParAt w P q) : P < w.heap.size := by have := World.block_lt_of_cell? _ _ h.1; simpa using this
theorem ParAt.grown {w a : World} {P : Nat} {q : Int} {row : Option Nat} (h : ParAt w P q) (hg : w.grownBy a row) (hne : some P ≠ row) : ParAt a P q := h.keep (hg.block P h.lt hne)
theorem ParAt.alloc {w : World} {P : Nat} {q : Int} (h : ParAt w P q) (o : Obj) : ParAt (w.alloc o) P q := h.keep (Below.heap_alloc _ _ _ h.lt)
set_option maxHeartbeats 4000000 in
theorem pre_any (P : Nat) (q r : Int) (w : World) (h : ParAt w P q) : Calls Try.prog 30 #[.pointer (some ⟨P, 0, none⟩), .int .u32 r] w fun e w' => e = .returned (.agg #[.int .u32 q, .int .i64 0]) ∧ ParAt w' P r ∧ w.grownBy w' (some P) := by
  obtain ⟨c17, c25, c26, f17, f25⟩ := h
  have z := World.block_lt_of_cell? _ _ c17
  simp only at z
  go_enter Try.func30, Try.ntmps30
  go_wp2_with fail
  go_region_held3 (fun W9 => W9.cell? ⟨P, 17, none⟩ = some (.int .u32 q) ∧ W9.cell? ⟨P, 25, none⟩ = some (.int .i64 0))
    ((refine ⟨?_, ?_⟩ <;> simp [go_sem, c17, c25, z]))
    (fail)
  all_goals
    go_wp2_with fail
    go_returns
    exact ⟨rfl, ⟨by simp [go_sem, c17, c25, z], by simp [go_sem, c17, c25, z], by simp [go_sem, c26, z], by simp [go_sem, f17, z], by simp [go_sem, f25, z]⟩, gdrew (galloc (gset (gset (World.grownBy.refl _ _))) _)⟩
set_option maxHeartbeats 4000000 in
theorem post_any (P : Nat) (q r : Int) (w : World) (h : ParAt w P q) : Calls Try.prog 31 #[.pointer (some ⟨P, 0, none⟩), .agg #[.int .u32 r, .int .i64 0]] w fun e w' => e = .returned (.tuple #[]) ∧ ParAt w' P r ∧ w.grownBy w' (some P) := by
  obtain ⟨c17, c25, c26, f17, f25⟩ := h
  have z := World.block_lt_of_cell? _ _ c17
  simp only at z
  have hne : w.heap.size ≠ P := by omega
  go_enter Try.func31, Try.ntmps31
  go_wp2_with fail
  go_region_held3 (fun W9 => W9.cell? ⟨w.heap.size, 0, none⟩ = some (.int .u32 r) ∧ W9.cell? ⟨w.heap.size, 1, none⟩ = some (.int .i64 0))
    ((refine ⟨?_, ?_⟩ <;> simp [go_sem, z, hne]))
    (fail)
  all_goals
    go_wp2_with fail
    refine bodyPost_end (v := .tuple #[]) (by simp [results, Try.results31]) rfl ⟨rfl, ?_, ?_⟩
    · exact ⟨by simp [go_sem, c17, c25, z], by simp [go_sem, c17, c25, z], by simp [go_sem, c26, z], by simp [go_sem, f17, z], by simp [go_sem, f25, z]⟩
    · exact gdrew (galloc (gset (gset (World.grownBy.refl _ _))) _)
set_option maxHeartbeats 1000000 in
theorem zpre_any (P : Nat) (q r : Int) (w : World) (h : ParAt w P q) (hr : 0 ≤ r ∧ r ≤ 4294967295) : Calls Try.prog 24 #[.pointer (some ⟨P, 0, none⟩), .int .u32 r] w fun e w' => e = .returned (.agg #[.int .u32 q, .int .i64 0]) ∧ ParAt w' P r ∧ w.grownBy w' (some P) := by
  have z := h.lt
  have H := Lib.hid h
  clear h
  go_enter Try.func24, Try.ntmps24
  go_wp2_with fail
  refine (pre_any P q r _ (H.out.alloc _)).mono ?_
  rintro e w1 ⟨rfl, hp, hg⟩
  have hne : w.heap.size ≠ P := by omega
  have k0 : w1.cell? ⟨w.heap.size, 0, none⟩ = some (.int .u32 0) := by rw [World.cell?_of_block (w := w.alloc _) (hg.block w.heap.size (by simp) (fun e => by injection e; omega))]; simp [go_sem]
  have k1 : w1.cell? ⟨w.heap.size, 1, none⟩ = some (.int .i64 0) := by rw [World.cell?_of_block (w := w.alloc _) (hg.block w.heap.size (by simp) (fun e => by injection e; omega))]; simp [go_sem]
  have f0 : w1.frozen? ⟨w.heap.size, 0, none⟩ = false := by rw [World.frozen?_of_block (w := w.alloc _) (hg.block w.heap.size (by simp) (fun e => by injection e; omega))]; simp [go_sem]
  have f1 : w1.frozen? ⟨w.heap.size, 1, none⟩ = false := by rw [World.frozen?_of_block (w := w.alloc _) (hg.block w.heap.size (by simp) (fun e => by injection e; omega))]; simp [go_sem]
  have HP := Lib.hid hp
  have HG := Lib.hid (gtrans (galloc (World.grownBy.refl w (some P)) _) hg)
  clear hp hg
  go_wp2_with fail
  refine bodyPost_ret (v := .agg #[.int .u32 q, .int .i64 0]) (by simp [results, Try.results24, go_sem, k0, k1]) rfl ⟨rfl, ?_, ?_⟩
  · refine HP.out.keep ?_
    rw [Below.heap_setCell _ _ _ _ (fun e => hne (by simpa using e.symm)), Below.heap_setCell _ _ _ _ (fun e => hne (by simpa using e.symm))]
  · exact gnew (gnew HG.out (Nat.le_refl _)) (Nat.le_refl _)
set_option maxHeartbeats 1000000 in
theorem zpost_any (P : Nat) (q r : Int) (w : World) (h : ParAt w P q) : Calls Try.prog 25 #[.pointer (some ⟨P, 0, none⟩), .agg #[.int .u32 r, .int .i64 0]] w fun e w' => e = .returned (.tuple #[]) ∧ ParAt w' P r ∧ w.grownBy w' (some P) := by
  have H := Lib.hid h
  clear h
  go_enter Try.func25, Try.ntmps25
  go_wp2_with fail
  refine (post_any P q r _ (H.out.alloc _)).mono ?_
  rintro e w1 ⟨rfl, hp, hg⟩
  have HG := Lib.hid (gtrans (galloc (World.grownBy.refl w (some P)) _) hg)
  clear hg
  go_wp2_with fail
  exact bodyPost_end (v := .tuple #[]) (by simp [results, Try.results25]) rfl ⟨rfl, hp, HG.out⟩
theorem info_clu : (Try.prog.info? 5).map (fun i => (i.zero, i.size, i.bytes)) = some (some (.int .u8 0), 1, 1) := by kernel_rfl
set_option maxRecDepth 100000 in
set_option maxHeartbeats 1000000 in
theorem clu_some (x : Addr) (len cap : Nat) (zs : List Int) (w : World) (hl : len ≤ zs.length) (hb : len ≤ 1048576) (hc : ∀ i, i < zs.length → w.cell? (x.add i) = some (.int .u8 (zs.getD i 0))) (hx : 0 < len → x.block < w.heap.size) :
    Calls Try.prog 8 #[.slice (some x) len cap] w fun e w' => e = .returned (.slice (some ⟨w.heap.size, 0, none⟩) len len) ∧ w'.ownsRow w.heap.size 5 1 (.slice (some ⟨w.heap.size, 0, none⟩) len len) len ((zs.take len).map (Value.int .u8)) ∧ Below w.heap.size w w' := by
  obtain ⟨i0, hi, hz0, hz1, hz2⟩ := info_parts info_clu
  have HC := Lib.hid hc
  clear hc
  have hnil := fun (W : World) => Lib.run_eql_slice_nil (P := Try.prog) W 22 5 (some x) len cap 0 0 Try.underlying22
  go_enter Try.func8, Try.ntmps8
  go_wp2_with (first | (at_make; (refine wpList_make_full _ rfl _ _ 22 rfl w.heap.size 5 i0 (.int .u8 0) 1 Try.underlying22 hi hz0 hz1 _ _ _ _ len rfl rfl rfl rfl (by rw [hz2]; omega) (by unfold maxLen; omega) (Nat.le_refl _) ?_); intro w1 hown hgrow))
  rw [made_cells _ _ rfl, ← partRow_zero .u8 zs len] at hown
  have hbel : Below w.heap.size w w1 := (Below.refl _ _).grown hgrow (Nat.le_refl _) (by simp)
  clear hgrow hnil hi hz0 hz1 hz2
  go_loopw [4] (fun i wr => ∃ k : Nat, k ≤ len ∧ i = .int .i64 k ∧ wr.ownsRow w.heap.size 5 1 (.slice (some ⟨w.heap.size, 0, none⟩) len len) len (partRow .u8 zs len k) ∧ Below w.heap.size w wr) (fun i _ => len - (intOf i).toNat)
  case atStart => exact ⟨0, Nat.zero_le _, rfl, hown, hbel⟩
  case round =>
    obtain ⟨k, hk, rfl, hown, hbel⟩ := hrel
    by_cases hlt : k < len
    · have c1 : wr.cell? (x.add k) = some (.int .u8 (zs.getD k 0)) := by
        rw [hbel.cell (p := x.add k) (by rw [block_of_add]; exact hx (by omega))]
        exact HC.out k (by omega)
      have c2 : wr.cell? ⟨w.heap.size, k, none⟩ = some (.int .u8 0) := by
        rw [hown.cellAt k (by omega)]
        exact partRow_at .u8 zs len k hlt (by omega)
      have f2 := hown.frozenAt k
      have HO := Lib.hid hown
      clear hown
      go_wp2
      go_roundw
      case rel =>
        have hs := (HO.out.stored k (.int .u8 (zs.getD k 0))).1
        rw [partRow_set .u8 zs len k hlt (by omega)] at hs
        exact ⟨k + 1, by omega, by go_num, hs, hbel.setCell (Nat.le_refl _) _⟩
      case measure => simp [intOf]; omega
    · obtain rfl : k = len := by omega
      rw [partRow_all] at hown
      go_wp2
      go_ret
      exact ⟨rfl, hown, hbel⟩
set_option maxHeartbeats 1000000 in
theorem clu_none (w : World) :
    Calls Try.prog 8 #[.slice none 0 0] w fun e w' => e = .returned (.slice none 0 0) ∧ Below w.heap.size w w' := by
  have hnil := fun (W : World) => Lib.run_eql_slice_nil (P := Try.prog) W 22 5 none 0 0 0 0 Try.underlying22
  go_enter Try.func8, Try.ntmps8
  go_wp2
  go_ret
  exact ⟨rfl, by go_grown⟩
theorem clu_row (a : Option Addr) (len cap : Nat) (zs : List Int) (w : World) (h : IsRow .u8 w a len cap zs) (hb : len ≤ 1048576) :
    Calls Try.prog 8 #[.slice a len cap] w fun e w' => ∃ A, e = .returned (.slice A len len) ∧ RowOf .u8 w' A len (fun i => zs.getD i 0) ∧ Below w.heap.size w w' := by
  rcases h with ⟨rfl, rfl, rfl, rfl⟩ | ⟨x, rfl, hl, _, hz, hc, _⟩
  · exact (clu_none w).mono fun _ _ ⟨he, hb⟩ => ⟨none, he, fun i hi => absurd hi (by omega), hb⟩
  · have hx : 0 < len → x.block < w.heap.size := fun h0 => by
      have := World.block_lt_of_cell? w _ (hc 0 (by omega))
      rwa [block_of_add] at this
    refine (clu_some x len cap zs w (by omega) hb hc hx).mono fun e w' ⟨he, ho, hb⟩ => ⟨_, he, fun i hi => ⟨_, rfl, ?_⟩, hb⟩
    rw [ho.cellAt i (by omega)]
    simp [List.getD, hi, show i < zs.length by omega]
def qOf (op : Int) : Int := 2 ^ ((op / 2 % 21).toNat)
set_option maxHeartbeats 1000000 in
theorem qo_any (op : Int) (w : World) (h : 0 ≤ op ∧ op ≤ 255) : Calls Try.prog 23 #[.int .u8 op] w fun e w' => (∃ q : Int, e = .returned (.int .u32 q) ∧ 0 ≤ q ∧ q ≤ 4294967295) ∧ w' = w := by
  go_enter Try.func23, Try.ntmps23
  go_wp2_with fail
  go_ret
  refine ⟨⟨2 ^ (op / 2 % 21).toNat % 4294967296, rfl, ?_, ?_⟩, rfl⟩
  · exact Int.emod_nonneg _ (by decide)
  · have := Int.emod_lt_of_pos ((2 : Int) ^ (op / 2 % 21).toNat) (show (0 : Int) < 4294967296 by decide); omega
end Go.Proofs.Ytdmmpgeaendjpaa
