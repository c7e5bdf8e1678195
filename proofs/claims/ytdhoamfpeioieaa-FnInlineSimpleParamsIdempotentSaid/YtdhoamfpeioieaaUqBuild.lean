/- What zzUnquoteWord_b2 builds, and the two calls of unquoteParams. Conditions: at most 65536 parts. -/
import Derived.Test.YtdhoamfpeioieaaUq
namespace Go.Proofs.Ytdhoamfpeioieaa
open Go.RowKit
set_option linter.unusedVariables false

def uqV (G : Nat) (v0 : Value) (i : Nat) : Value := if i = 0 then v0 else .iface 32 (.pointer (some ⟨G + i, 0, none⟩))
theorem uqV_good {G : Nat} {v0 : Value} (h : Good v0) (i : Nat) : Good (uqV G v0 i) := by
  unfold uqV; split
  · exact h
  · exact ⟨_, .inl rfl⟩
/-- a row being filled by new literals behind its first part -/
def RB (g n : Nat) (v0 : Value) (w0 : World) (k : Nat) (wr : World) : Prop := Fill g n (uqV g v0) w0 k wr ∧ wr.heap.size = g + (if k = 0 then 1 else k)
theorem rb_start {w0 : World} {g n : Nat} {v0 : Value} {C : Array Value} (hg : w0.heap.size = g) (hn : n ≤ 65536) (hC : C.toList = List.replicate n .nilIface) : RB g n v0 w0 0 (w0.alloc (.cells C 102)) :=
  ⟨fill_start hg hn hC, by simp [hg]⟩
theorem rb_first {w0 wr : World} {g n : Nat} {v0 : Value} (h : RB g n v0 w0 0 wr) (hn : 0 < n) : RB g n v0 w0 1 (wr.setCell ⟨g, 0, none⟩ v0) :=
  ⟨fill_step h.1 hn, by have := h.2; simpa using this⟩
theorem rb_next {w0 wr : World} {g n k : Nat} {v0 : Value} (h : RB g n v0 w0 k wr) (hk : k < n) (h0 : 0 < k) (o : Obj) : RB g n v0 w0 (k + 1) ((wr.setCell ⟨g, k, none⟩ (.iface 32 (.pointer (some ⟨wr.heap.size, 0, none⟩)))).alloc o) := by
  obtain ⟨hf, hs⟩ := h
  rw [if_neg (by omega)] at hs
  have e : (Value.iface 32 (.pointer (some ⟨wr.heap.size, 0, none⟩))) = uqV g v0 k := by unfold uqV; rw [if_neg (by omega), hs]
  rw [e]
  exact ⟨fill_alloc (fill_step hf hk) o, by simp [hs]; omega⟩
theorem rb_cell {w0 wr : World} {g n k : Nat} {v0 : Value} (h : RB g n v0 w0 k wr) (hk : k < n) : wr.cell? ⟨g, k, none⟩ = some .nilIface := by
  rw [h.1.1.cellAt k (by omega)]; exact partV_at _ _ n k hk
/-- what stands in memory in the end -/
theorem word_of {w : World} {W D g h n m : Nat} {p0 i0 : Value} (hn : n ≤ 65536) (hm : m ≤ 65536) (c0 : w.cell? ⟨W, 0, none⟩ = some (.slice (some ⟨g, 0, none⟩) n n)) (f0 : w.frozen? ⟨W, 0, none⟩ = false) (c1 : w.cell? ⟨D, 5, none⟩ = some (.slice (some ⟨h, 0, none⟩) m m)) (hh : h ≠ W)
    (r1 : RowV w g n (uqV g p0)) (r2 : RowV w h m (uqV h i0)) (hp : p0 = .iface 41 (.pointer (some ⟨D, 0, none⟩)) ∨ ∀ b, p0 ≠ .iface 41 (.pointer (some ⟨b, 0, none⟩))) :
    (∃ g v, Calm w W g n v) ∨ (n = 1 ∧ Loud w W w.heap.size) := by
  by_cases hn1 : n = 1
  · rcases hp with hp | hp
    · by_cases hm1 : m = 1
      · by_cases hi : ∃ c, i0 = .iface 31 (.pointer (some ⟨c, 0, none⟩))
        · obtain ⟨c, rfl⟩ := hi
          subst hn1 hm1 hp
          have k1 := (r1 0 (by omega)).1
          have k2 := (r2 0 (by omega)).1
          have z0 := World.block_lt_of_cell? _ _ c0
          have z1 := World.block_lt_of_cell? _ _ c1
          have z2 := World.block_lt_of_cell? _ _ k1
          have z3 := World.block_lt_of_cell? _ _ k2
          simp only at z0 z1 z2 z3
          exact .inr ⟨rfl, g, D, h, c, ⟨z2, z1, z3, z0⟩, c0, k1, c1, k2, f0, hh⟩
        · exact .inl ⟨g, _, hn, c0, r1, fun _ => .inr ⟨D, h, m, _, hp, c1, hm, r2, fun _ c e => hi ⟨c, e⟩⟩⟩
      · exact .inl ⟨g, _, hn, c0, r1, fun _ => .inr ⟨D, h, m, _, hp, c1, hm, r2, fun e => absurd e hm1⟩⟩
    · exact .inl ⟨g, _, hn, c0, r1, fun _ => .inl hp⟩
  · exact .inl ⟨g, _, hn, c0, r1, fun e => absurd e hn1⟩
theorem results_tmp3 {fn : Func} {t u v : Tmp} (h : fn.results = #[.tmp t, .tmp u, .tmp v]) (tmps : Array Value) (P : Program) (w : World) :
    (results fn tmps).run P w = .ok (.tuple #[tmps.getD t undef, tmps.getD u undef, tmps.getD v undef]) w := by simp [results, h]
def UqMade (n : Nat) (w : World) (e : Ending) (w' : World) : Prop := ∃ W P D : Nat, e = .returned (.tuple #[.pointer (some ⟨W, 0, none⟩), .pointer (some ⟨P, 0, none⟩), .pointer (some ⟨D, 0, none⟩)]) ∧ w.heap.size ≤ W ∧ ((∃ g v, Calm w' W g n v) ∨ (n = 1 ∧ Loud w' W w'.heap.size)) ∧ Below w.heap.size w w'

set_option maxRecDepth 100000 in
set_option maxHeartbeats 4000000 in
theorem uqb_0_0 (n m : Nat) (s : ByteArray) (w : World) (hn : n ≤ 65536) (hm : m ≤ 65536) :
    Calls Try.prog 15 #[.int .i64 n, .int .i64 0, .int .i64 m, .int .i64 0, .string s] w (UqMade n w) := by
  have hmk := mk_parts m hm
  go_enter Try.func15, Try.ntmps15
  go_wp2_with fail
  refine wp_gen (fun U => ∃ w0 : World, (Below w.heap.size w w0 ∧ w0.heap.size = w.heap.size + 1 + 1) ∧ RB (w.heap.size + 1 + 1) m (.iface 31 (.pointer (some ⟨w.heap.size + 1, 0, none⟩))) w0 0 U) ?_ ?_
  · refine ⟨_, ⟨?_, ?_⟩, rb_start ?_ hm ?_⟩
    · go_grown
    · simp
    · simp
    · first | exact made_cells _ _ rfl | exact toList_madeCells_one _ _ | simp [toList_madeCells_one]
  rintro U ⟨w00, hw, hG⟩
  have HG := Lib.hid hG
  have HW := Lib.hid hw
  clear hG hw hmk
  go_loopw [16] (fun i wr => ∃ k : Nat, k ≤ m ∧ i = .int .i64 k ∧ Hid (RB (w.heap.size + 1 + 1) m (.iface 31 (.pointer (some ⟨w.heap.size + 1, 0, none⟩))) w00 k wr)) (fun i _ => m - (intOf i).toNat)
  case atStart => exact ⟨0, Nat.zero_le _, rfl, HG⟩
  case round =>
    obtain ⟨k, hk, rfl, HRR⟩ := hrel
    clear HG
    by_cases hlt : k < m
    · have c2 := rb_cell HRR.out hlt
      have f2 := HRR.out.1.1.frozenAt k
      have z2 := World.block_lt_of_cell? _ _ c2
      simp only at z2
      by_cases hk0 : k = 0
      · subst hk0
        go_wp2_with fail
        go_roundw
        case rel => exact ⟨1, by omega, by go_num, Lib.hid (rb_first HRR.out hlt)⟩
        case measure => simp [intOf]; omega
      · have e1 : ((k : Int) == 0) = false := by simp; omega
        go_wp2_with fail
        go_roundw
        case rel => exact ⟨k + 1, by omega, by go_num, Lib.hid (rb_next HRR.out hlt (by omega) _)⟩
        case measure => simp [intOf]; omega
    · obtain rfl : k = m := by omega
      have HR8 := Lib.hid (fill_row HRR.out.1 (fun i _ => uqV_good ⟨_, .inr (.inl rfl)⟩ i))
      have HB8 := Lib.hid (show Below w.heap.size w wr from by have := HRR.out.1.2.1; have h0 := HW.out; exact below_via h0.1 (by rw [h0.2]; exact this) h0.1.size)
      have HZ := Lib.hid HRR.out.1.2.2
      clear HRR
      refine wp_gen (fun V => RowV V (w.heap.size + 1 + 1) k (uqV (w.heap.size + 1 + 1) (.iface 31 (.pointer (some ⟨w.heap.size + 1, 0, none⟩)))) ∧ Below w.heap.size w V ∧ w.heap.size + 1 + 1 < V.heap.size) ⟨HR8.out, HB8.out, HZ.out⟩ ?_
      rintro V ⟨hv1, hv2, hv3⟩
      have V1 := Lib.hid hv1
      have V2 := Lib.hid hv2
      have V9 := Lib.hid hv3
      clear hv1 hv2 hv3 HR8 HB8 HZ
      have hmk := mk_parts n hn
      go_wp2_with fail
      refine wp_gen (fun U => ∃ w0 : World, Below w.heap.size w w0 ∧ w0.heap.size = V.heap.size + 1 ∧ w0.cell? ⟨V.heap.size, 5, none⟩ = some (.slice (some ⟨w.heap.size + 1 + 1, 0, none⟩) k k) ∧ RowV w0 (w.heap.size + 1 + 1) k (uqV (w.heap.size + 1 + 1) (.iface 31 (.pointer (some ⟨w.heap.size + 1, 0, none⟩)))) ∧ RB (V.heap.size + 1) n (.iface 41 (.pointer (some ⟨V.heap.size, 0, none⟩))) w0 0 U) ?_ ?_
      · refine ⟨_, ?_, ?_, ?_, ?_, rb_start ?_ hn ?_⟩
        · exact below_next V2.out (by go_grown)
        · simp
        · simp [go_sem]
        · exact V1.out.below (by go_grown)
        · simp
        · first | exact made_cells _ _ rfl | exact toList_madeCells_one _ _ | simp [toList_madeCells_one]
      rintro U ⟨w0, hb0, hs0, hd0, hr0, hG⟩
      have HG := Lib.hid hG
      have H0 := Lib.hid (And.intro hb0 (And.intro hs0 (And.intro hd0 hr0)))
      clear hG hb0 hs0 hd0 hr0 hmk
      go_loopw [20] (fun i wr => ∃ k : Nat, k ≤ n ∧ i = .int .i64 k ∧ Hid (RB (V.heap.size + 1) n (.iface 41 (.pointer (some ⟨V.heap.size, 0, none⟩))) w0 k wr)) (fun i _ => n - (intOf i).toNat)
      case atStart => exact ⟨0, Nat.zero_le _, rfl, HG⟩
      case round =>
        obtain ⟨k, hk, rfl, HRR⟩ := hrel
        clear HG
        by_cases hlt : k < n
        · have c2 := rb_cell HRR.out hlt
          have f2 := HRR.out.1.1.frozenAt k
          have z2 := World.block_lt_of_cell? _ _ c2
          simp only at z2
          by_cases hk0 : k = 0
          · subst hk0
            go_wp2_with fail
            go_roundw
            case rel => exact ⟨1, by omega, by go_num, Lib.hid (rb_first HRR.out hlt)⟩
            case measure => simp [intOf]; omega
          · have e1 : ((k : Int) == 0) = false := by simp; omega
            go_wp2_with fail
            go_roundw
            case rel => exact ⟨k + 1, by omega, by go_num, Lib.hid (rb_next HRR.out hlt (by omega) _)⟩
            case measure => simp [intOf]; omega
        · obtain rfl : k = n := by omega
          have HR9 := Lib.hid (fill_row HRR.out.1 (fun i _ => uqV_good ⟨_, .inr (.inr (.inr rfl))⟩ i))
          have HB9 := Lib.hid HRR.out.1.2.1
          have z9 := HRR.out.1.2.2
          clear HRR
          go_wp2_with fail
          refine bodyPost_ret (results_tmp3 rfl _ _ _) rfl ?_
          obtain ⟨hB0, hs0, hd0, hr0⟩ := H0.out
          have hbW : Below wr.heap.size wr (wr.alloc (.cells #[.slice (some ⟨V.heap.size + 1, 0, none⟩) k k] 51)) := (Below.refl _ _).alloc (Nat.le_refl _) _
          have l0 : Below w0.heap.size w0 wr := by rw [hs0]; exact HB9.out
          refine ⟨_, _, _, rfl, ?_, word_of hn hm (g := V.heap.size + 1) (h := w.heap.size + 1 + 1) (p0 := .iface 41 (.pointer (some ⟨V.heap.size, 0, none⟩))) (i0 := .iface 31 (.pointer (some ⟨w.heap.size + 1, 0, none⟩))) (W := wr.heap.size) (D := V.heap.size) ?_ ?_ ?_ ?_ (HR9.out.below hbW) ((hr0.below l0).below hbW) (.inl rfl), ?_⟩
          · have := hB0.size; omega
          · simp [go_sem]
          · simp [go_sem]
          · exact cell_below hbW (cell_below l0 hd0)
          · have := hB0.size; have := V9.out; omega
          · exact (below_next hB0 l0).alloc (by have := hB0.size; omega) _
set_option maxRecDepth 100000 in
set_option maxHeartbeats 4000000 in
theorem uqb_0_1 (n m : Nat) (s : ByteArray) (w : World) (hn : n ≤ 65536) (hm : m ≤ 65536) :
    Calls Try.prog 15 #[.int .i64 n, .int .i64 1, .int .i64 m, .int .i64 0, .string s] w (UqMade n w) := by
  have hmk := mk_parts m hm
  go_enter Try.func15, Try.ntmps15
  go_wp2_with fail
  refine wp_gen (fun U => ∃ w0 : World, (Below w.heap.size w w0 ∧ w0.heap.size = w.heap.size + 1 + 1) ∧ RB (w.heap.size + 1 + 1) m (.iface 31 (.pointer (some ⟨w.heap.size + 1, 0, none⟩))) w0 0 U) ?_ ?_
  · refine ⟨_, ⟨?_, ?_⟩, rb_start ?_ hm ?_⟩
    · go_grown
    · simp
    · simp
    · first | exact made_cells _ _ rfl | exact toList_madeCells_one _ _ | simp [toList_madeCells_one]
  rintro U ⟨w00, hw, hG⟩
  have HG := Lib.hid hG
  have HW := Lib.hid hw
  clear hG hw hmk
  go_loopw [16] (fun i wr => ∃ k : Nat, k ≤ m ∧ i = .int .i64 k ∧ Hid (RB (w.heap.size + 1 + 1) m (.iface 31 (.pointer (some ⟨w.heap.size + 1, 0, none⟩))) w00 k wr)) (fun i _ => m - (intOf i).toNat)
  case atStart => exact ⟨0, Nat.zero_le _, rfl, HG⟩
  case round =>
    obtain ⟨k, hk, rfl, HRR⟩ := hrel
    clear HG
    by_cases hlt : k < m
    · have c2 := rb_cell HRR.out hlt
      have f2 := HRR.out.1.1.frozenAt k
      have z2 := World.block_lt_of_cell? _ _ c2
      simp only at z2
      by_cases hk0 : k = 0
      · subst hk0
        go_wp2_with fail
        go_roundw
        case rel => exact ⟨1, by omega, by go_num, Lib.hid (rb_first HRR.out hlt)⟩
        case measure => simp [intOf]; omega
      · have e1 : ((k : Int) == 0) = false := by simp; omega
        go_wp2_with fail
        go_roundw
        case rel => exact ⟨k + 1, by omega, by go_num, Lib.hid (rb_next HRR.out hlt (by omega) _)⟩
        case measure => simp [intOf]; omega
    · obtain rfl : k = m := by omega
      have HR8 := Lib.hid (fill_row HRR.out.1 (fun i _ => uqV_good ⟨_, .inr (.inl rfl)⟩ i))
      have HB8 := Lib.hid (show Below w.heap.size w wr from by have := HRR.out.1.2.1; have h0 := HW.out; exact below_via h0.1 (by rw [h0.2]; exact this) h0.1.size)
      have HZ := Lib.hid HRR.out.1.2.2
      clear HRR
      refine wp_gen (fun V => RowV V (w.heap.size + 1 + 1) k (uqV (w.heap.size + 1 + 1) (.iface 31 (.pointer (some ⟨w.heap.size + 1, 0, none⟩)))) ∧ Below w.heap.size w V ∧ w.heap.size + 1 + 1 < V.heap.size) ⟨HR8.out, HB8.out, HZ.out⟩ ?_
      rintro V ⟨hv1, hv2, hv3⟩
      have V1 := Lib.hid hv1
      have V2 := Lib.hid hv2
      have V9 := Lib.hid hv3
      clear hv1 hv2 hv3 HR8 HB8 HZ
      have hmk := mk_parts n hn
      go_wp2_with fail
      refine wp_gen (fun U => ∃ w0 : World, Below w.heap.size w w0 ∧ w0.heap.size = V.heap.size + 1 + 1 ∧ w0.cell? ⟨V.heap.size, 5, none⟩ = some (.slice (some ⟨w.heap.size + 1 + 1, 0, none⟩) k k) ∧ RowV w0 (w.heap.size + 1 + 1) k (uqV (w.heap.size + 1 + 1) (.iface 31 (.pointer (some ⟨w.heap.size + 1, 0, none⟩)))) ∧ RB (V.heap.size + 1 + 1) n (.iface 32 (.pointer (some ⟨V.heap.size + 1, 0, none⟩))) w0 0 U) ?_ ?_
      · refine ⟨_, ?_, ?_, ?_, ?_, rb_start ?_ hn ?_⟩
        · exact below_next V2.out (by go_grown)
        · simp
        · simp [go_sem]
        · exact V1.out.below (by go_grown)
        · simp
        · first | exact made_cells _ _ rfl | exact toList_madeCells_one _ _ | simp [toList_madeCells_one]
      rintro U ⟨w0, hb0, hs0, hd0, hr0, hG⟩
      have HG := Lib.hid hG
      have H0 := Lib.hid (And.intro hb0 (And.intro hs0 (And.intro hd0 hr0)))
      clear hG hb0 hs0 hd0 hr0 hmk
      go_loopw [20] (fun i wr => ∃ k : Nat, k ≤ n ∧ i = .int .i64 k ∧ Hid (RB (V.heap.size + 1 + 1) n (.iface 32 (.pointer (some ⟨V.heap.size + 1, 0, none⟩))) w0 k wr)) (fun i _ => n - (intOf i).toNat)
      case atStart => exact ⟨0, Nat.zero_le _, rfl, HG⟩
      case round =>
        obtain ⟨k, hk, rfl, HRR⟩ := hrel
        clear HG
        by_cases hlt : k < n
        · have c2 := rb_cell HRR.out hlt
          have f2 := HRR.out.1.1.frozenAt k
          have z2 := World.block_lt_of_cell? _ _ c2
          simp only at z2
          by_cases hk0 : k = 0
          · subst hk0
            go_wp2_with fail
            go_roundw
            case rel => exact ⟨1, by omega, by go_num, Lib.hid (rb_first HRR.out hlt)⟩
            case measure => simp [intOf]; omega
          · have e1 : ((k : Int) == 0) = false := by simp; omega
            go_wp2_with fail
            go_roundw
            case rel => exact ⟨k + 1, by omega, by go_num, Lib.hid (rb_next HRR.out hlt (by omega) _)⟩
            case measure => simp [intOf]; omega
        · obtain rfl : k = n := by omega
          have HR9 := Lib.hid (fill_row HRR.out.1 (fun i _ => uqV_good ⟨_, .inl rfl⟩ i))
          have HB9 := Lib.hid HRR.out.1.2.1
          have z9 := HRR.out.1.2.2
          clear HRR
          go_wp2_with fail
          refine bodyPost_ret (results_tmp3 rfl _ _ _) rfl ?_
          obtain ⟨hB0, hs0, hd0, hr0⟩ := H0.out
          have hbW : Below wr.heap.size wr (wr.alloc (.cells #[.slice (some ⟨V.heap.size + 1 + 1, 0, none⟩) k k] 51)) := (Below.refl _ _).alloc (Nat.le_refl _) _
          have l0 : Below w0.heap.size w0 wr := by rw [hs0]; exact HB9.out
          refine ⟨_, _, _, rfl, ?_, word_of hn hm (g := V.heap.size + 1 + 1) (h := w.heap.size + 1 + 1) (p0 := .iface 32 (.pointer (some ⟨V.heap.size + 1, 0, none⟩))) (i0 := .iface 31 (.pointer (some ⟨w.heap.size + 1, 0, none⟩))) (W := wr.heap.size) (D := V.heap.size) ?_ ?_ ?_ ?_ (HR9.out.below hbW) ((hr0.below l0).below hbW) (.inr (fun b e => by injection e with e; simp at e)), ?_⟩
          · have := hB0.size; omega
          · simp [go_sem]
          · simp [go_sem]
          · exact cell_below hbW (cell_below l0 hd0)
          · have := hB0.size; have := V9.out; omega
          · exact (below_next hB0 l0).alloc (by have := hB0.size; omega) _
set_option maxRecDepth 100000 in
set_option maxHeartbeats 4000000 in
theorem uqb_0_2 (n m : Nat) (s : ByteArray) (w : World) (hn : n ≤ 65536) (hm : m ≤ 65536) :
    Calls Try.prog 15 #[.int .i64 n, .int .i64 2, .int .i64 m, .int .i64 0, .string s] w (UqMade n w) := by
  have hmk := mk_parts m hm
  go_enter Try.func15, Try.ntmps15
  go_wp2_with fail
  refine wp_gen (fun U => ∃ w0 : World, (Below w.heap.size w w0 ∧ w0.heap.size = w.heap.size + 1 + 1) ∧ RB (w.heap.size + 1 + 1) m (.iface 31 (.pointer (some ⟨w.heap.size + 1, 0, none⟩))) w0 0 U) ?_ ?_
  · refine ⟨_, ⟨?_, ?_⟩, rb_start ?_ hm ?_⟩
    · go_grown
    · simp
    · simp
    · first | exact made_cells _ _ rfl | exact toList_madeCells_one _ _ | simp [toList_madeCells_one]
  rintro U ⟨w00, hw, hG⟩
  have HG := Lib.hid hG
  have HW := Lib.hid hw
  clear hG hw hmk
  go_loopw [16] (fun i wr => ∃ k : Nat, k ≤ m ∧ i = .int .i64 k ∧ Hid (RB (w.heap.size + 1 + 1) m (.iface 31 (.pointer (some ⟨w.heap.size + 1, 0, none⟩))) w00 k wr)) (fun i _ => m - (intOf i).toNat)
  case atStart => exact ⟨0, Nat.zero_le _, rfl, HG⟩
  case round =>
    obtain ⟨k, hk, rfl, HRR⟩ := hrel
    clear HG
    by_cases hlt : k < m
    · have c2 := rb_cell HRR.out hlt
      have f2 := HRR.out.1.1.frozenAt k
      have z2 := World.block_lt_of_cell? _ _ c2
      simp only at z2
      by_cases hk0 : k = 0
      · subst hk0
        go_wp2_with fail
        go_roundw
        case rel => exact ⟨1, by omega, by go_num, Lib.hid (rb_first HRR.out hlt)⟩
        case measure => simp [intOf]; omega
      · have e1 : ((k : Int) == 0) = false := by simp; omega
        go_wp2_with fail
        go_roundw
        case rel => exact ⟨k + 1, by omega, by go_num, Lib.hid (rb_next HRR.out hlt (by omega) _)⟩
        case measure => simp [intOf]; omega
    · obtain rfl : k = m := by omega
      have HR8 := Lib.hid (fill_row HRR.out.1 (fun i _ => uqV_good ⟨_, .inr (.inl rfl)⟩ i))
      have HB8 := Lib.hid (show Below w.heap.size w wr from by have := HRR.out.1.2.1; have h0 := HW.out; exact below_via h0.1 (by rw [h0.2]; exact this) h0.1.size)
      have HZ := Lib.hid HRR.out.1.2.2
      clear HRR
      refine wp_gen (fun V => RowV V (w.heap.size + 1 + 1) k (uqV (w.heap.size + 1 + 1) (.iface 31 (.pointer (some ⟨w.heap.size + 1, 0, none⟩)))) ∧ Below w.heap.size w V ∧ w.heap.size + 1 + 1 < V.heap.size) ⟨HR8.out, HB8.out, HZ.out⟩ ?_
      rintro V ⟨hv1, hv2, hv3⟩
      have V1 := Lib.hid hv1
      have V2 := Lib.hid hv2
      have V9 := Lib.hid hv3
      clear hv1 hv2 hv3 HR8 HB8 HZ
      have hmk := mk_parts n hn
      go_wp2_with fail
      refine wp_gen (fun U => ∃ w0 : World, Below w.heap.size w w0 ∧ w0.heap.size = V.heap.size + 1 + 1 + 1 ∧ w0.cell? ⟨V.heap.size, 5, none⟩ = some (.slice (some ⟨w.heap.size + 1 + 1, 0, none⟩) k k) ∧ RowV w0 (w.heap.size + 1 + 1) k (uqV (w.heap.size + 1 + 1) (.iface 31 (.pointer (some ⟨w.heap.size + 1, 0, none⟩)))) ∧ RB (V.heap.size + 1 + 1 + 1) n (.iface 31 (.pointer (some ⟨V.heap.size + 1 + 1, 0, none⟩))) w0 0 U) ?_ ?_
      · refine ⟨_, ?_, ?_, ?_, ?_, rb_start ?_ hn ?_⟩
        · exact below_next V2.out (by go_grown)
        · simp
        · simp [go_sem]
        · exact V1.out.below (by go_grown)
        · simp
        · first | exact made_cells _ _ rfl | exact toList_madeCells_one _ _ | simp [toList_madeCells_one]
      rintro U ⟨w0, hb0, hs0, hd0, hr0, hG⟩
      have HG := Lib.hid hG
      have H0 := Lib.hid (And.intro hb0 (And.intro hs0 (And.intro hd0 hr0)))
      clear hG hb0 hs0 hd0 hr0 hmk
      go_loopw [20] (fun i wr => ∃ k : Nat, k ≤ n ∧ i = .int .i64 k ∧ Hid (RB (V.heap.size + 1 + 1 + 1) n (.iface 31 (.pointer (some ⟨V.heap.size + 1 + 1, 0, none⟩))) w0 k wr)) (fun i _ => n - (intOf i).toNat)
      case atStart => exact ⟨0, Nat.zero_le _, rfl, HG⟩
      case round =>
        obtain ⟨k, hk, rfl, HRR⟩ := hrel
        clear HG
        by_cases hlt : k < n
        · have c2 := rb_cell HRR.out hlt
          have f2 := HRR.out.1.1.frozenAt k
          have z2 := World.block_lt_of_cell? _ _ c2
          simp only at z2
          by_cases hk0 : k = 0
          · subst hk0
            go_wp2_with fail
            go_roundw
            case rel => exact ⟨1, by omega, by go_num, Lib.hid (rb_first HRR.out hlt)⟩
            case measure => simp [intOf]; omega
          · have e1 : ((k : Int) == 0) = false := by simp; omega
            go_wp2_with fail
            go_roundw
            case rel => exact ⟨k + 1, by omega, by go_num, Lib.hid (rb_next HRR.out hlt (by omega) _)⟩
            case measure => simp [intOf]; omega
        · obtain rfl : k = n := by omega
          have HR9 := Lib.hid (fill_row HRR.out.1 (fun i _ => uqV_good ⟨_, .inr (.inl rfl)⟩ i))
          have HB9 := Lib.hid HRR.out.1.2.1
          have z9 := HRR.out.1.2.2
          clear HRR
          go_wp2_with fail
          refine bodyPost_ret (results_tmp3 rfl _ _ _) rfl ?_
          obtain ⟨hB0, hs0, hd0, hr0⟩ := H0.out
          have hbW : Below wr.heap.size wr (wr.alloc (.cells #[.slice (some ⟨V.heap.size + 1 + 1 + 1, 0, none⟩) k k] 51)) := (Below.refl _ _).alloc (Nat.le_refl _) _
          have l0 : Below w0.heap.size w0 wr := by rw [hs0]; exact HB9.out
          refine ⟨_, _, _, rfl, ?_, word_of hn hm (g := V.heap.size + 1 + 1 + 1) (h := w.heap.size + 1 + 1) (p0 := .iface 31 (.pointer (some ⟨V.heap.size + 1 + 1, 0, none⟩))) (i0 := .iface 31 (.pointer (some ⟨w.heap.size + 1, 0, none⟩))) (W := wr.heap.size) (D := V.heap.size) ?_ ?_ ?_ ?_ (HR9.out.below hbW) ((hr0.below l0).below hbW) (.inr (fun b e => by injection e with e; simp at e)), ?_⟩
          · have := hB0.size; omega
          · simp [go_sem]
          · simp [go_sem]
          · exact cell_below hbW (cell_below l0 hd0)
          · have := hB0.size; have := V9.out; omega
          · exact (below_next hB0 l0).alloc (by have := hB0.size; omega) _
set_option maxRecDepth 100000 in
set_option maxHeartbeats 4000000 in
theorem uqb_1_0 (n m : Nat) (s : ByteArray) (w : World) (hn : n ≤ 65536) (hm : m ≤ 65536) :
    Calls Try.prog 15 #[.int .i64 n, .int .i64 0, .int .i64 m, .int .i64 1, .string s] w (UqMade n w) := by
  have hmk := mk_parts m hm
  go_enter Try.func15, Try.ntmps15
  go_wp2_with fail
  refine wp_gen (fun U => ∃ w0 : World, (Below w.heap.size w w0 ∧ w0.heap.size = w.heap.size + 1 + 1 + 1) ∧ RB (w.heap.size + 1 + 1 + 1) m (.iface 32 (.pointer (some ⟨w.heap.size + 1 + 1, 0, none⟩))) w0 0 U) ?_ ?_
  · refine ⟨_, ⟨?_, ?_⟩, rb_start ?_ hm ?_⟩
    · go_grown
    · simp
    · simp
    · first | exact made_cells _ _ rfl | exact toList_madeCells_one _ _ | simp [toList_madeCells_one]
  rintro U ⟨w00, hw, hG⟩
  have HG := Lib.hid hG
  have HW := Lib.hid hw
  clear hG hw hmk
  go_loopw [16] (fun i wr => ∃ k : Nat, k ≤ m ∧ i = .int .i64 k ∧ Hid (RB (w.heap.size + 1 + 1 + 1) m (.iface 32 (.pointer (some ⟨w.heap.size + 1 + 1, 0, none⟩))) w00 k wr)) (fun i _ => m - (intOf i).toNat)
  case atStart => exact ⟨0, Nat.zero_le _, rfl, HG⟩
  case round =>
    obtain ⟨k, hk, rfl, HRR⟩ := hrel
    clear HG
    by_cases hlt : k < m
    · have c2 := rb_cell HRR.out hlt
      have f2 := HRR.out.1.1.frozenAt k
      have z2 := World.block_lt_of_cell? _ _ c2
      simp only at z2
      by_cases hk0 : k = 0
      · subst hk0
        go_wp2_with fail
        go_roundw
        case rel => exact ⟨1, by omega, by go_num, Lib.hid (rb_first HRR.out hlt)⟩
        case measure => simp [intOf]; omega
      · have e1 : ((k : Int) == 0) = false := by simp; omega
        go_wp2_with fail
        go_roundw
        case rel => exact ⟨k + 1, by omega, by go_num, Lib.hid (rb_next HRR.out hlt (by omega) _)⟩
        case measure => simp [intOf]; omega
    · obtain rfl : k = m := by omega
      have HR8 := Lib.hid (fill_row HRR.out.1 (fun i _ => uqV_good ⟨_, .inl rfl⟩ i))
      have HB8 := Lib.hid (show Below w.heap.size w wr from by have := HRR.out.1.2.1; have h0 := HW.out; exact below_via h0.1 (by rw [h0.2]; exact this) h0.1.size)
      have HZ := Lib.hid HRR.out.1.2.2
      clear HRR
      refine wp_gen (fun V => RowV V (w.heap.size + 1 + 1 + 1) k (uqV (w.heap.size + 1 + 1 + 1) (.iface 32 (.pointer (some ⟨w.heap.size + 1 + 1, 0, none⟩)))) ∧ Below w.heap.size w V ∧ w.heap.size + 1 + 1 + 1 < V.heap.size) ⟨HR8.out, HB8.out, HZ.out⟩ ?_
      rintro V ⟨hv1, hv2, hv3⟩
      have V1 := Lib.hid hv1
      have V2 := Lib.hid hv2
      have V9 := Lib.hid hv3
      clear hv1 hv2 hv3 HR8 HB8 HZ
      have hmk := mk_parts n hn
      go_wp2_with fail
      refine wp_gen (fun U => ∃ w0 : World, Below w.heap.size w w0 ∧ w0.heap.size = V.heap.size + 1 ∧ w0.cell? ⟨V.heap.size, 5, none⟩ = some (.slice (some ⟨w.heap.size + 1 + 1 + 1, 0, none⟩) k k) ∧ RowV w0 (w.heap.size + 1 + 1 + 1) k (uqV (w.heap.size + 1 + 1 + 1) (.iface 32 (.pointer (some ⟨w.heap.size + 1 + 1, 0, none⟩)))) ∧ RB (V.heap.size + 1) n (.iface 41 (.pointer (some ⟨V.heap.size, 0, none⟩))) w0 0 U) ?_ ?_
      · refine ⟨_, ?_, ?_, ?_, ?_, rb_start ?_ hn ?_⟩
        · exact below_next V2.out (by go_grown)
        · simp
        · simp [go_sem]
        · exact V1.out.below (by go_grown)
        · simp
        · first | exact made_cells _ _ rfl | exact toList_madeCells_one _ _ | simp [toList_madeCells_one]
      rintro U ⟨w0, hb0, hs0, hd0, hr0, hG⟩
      have HG := Lib.hid hG
      have H0 := Lib.hid (And.intro hb0 (And.intro hs0 (And.intro hd0 hr0)))
      clear hG hb0 hs0 hd0 hr0 hmk
      go_loopw [20] (fun i wr => ∃ k : Nat, k ≤ n ∧ i = .int .i64 k ∧ Hid (RB (V.heap.size + 1) n (.iface 41 (.pointer (some ⟨V.heap.size, 0, none⟩))) w0 k wr)) (fun i _ => n - (intOf i).toNat)
      case atStart => exact ⟨0, Nat.zero_le _, rfl, HG⟩
      case round =>
        obtain ⟨k, hk, rfl, HRR⟩ := hrel
        clear HG
        by_cases hlt : k < n
        · have c2 := rb_cell HRR.out hlt
          have f2 := HRR.out.1.1.frozenAt k
          have z2 := World.block_lt_of_cell? _ _ c2
          simp only at z2
          by_cases hk0 : k = 0
          · subst hk0
            go_wp2_with fail
            go_roundw
            case rel => exact ⟨1, by omega, by go_num, Lib.hid (rb_first HRR.out hlt)⟩
            case measure => simp [intOf]; omega
          · have e1 : ((k : Int) == 0) = false := by simp; omega
            go_wp2_with fail
            go_roundw
            case rel => exact ⟨k + 1, by omega, by go_num, Lib.hid (rb_next HRR.out hlt (by omega) _)⟩
            case measure => simp [intOf]; omega
        · obtain rfl : k = n := by omega
          have HR9 := Lib.hid (fill_row HRR.out.1 (fun i _ => uqV_good ⟨_, .inr (.inr (.inr rfl))⟩ i))
          have HB9 := Lib.hid HRR.out.1.2.1
          have z9 := HRR.out.1.2.2
          clear HRR
          go_wp2_with fail
          refine bodyPost_ret (results_tmp3 rfl _ _ _) rfl ?_
          obtain ⟨hB0, hs0, hd0, hr0⟩ := H0.out
          have hbW : Below wr.heap.size wr (wr.alloc (.cells #[.slice (some ⟨V.heap.size + 1, 0, none⟩) k k] 51)) := (Below.refl _ _).alloc (Nat.le_refl _) _
          have l0 : Below w0.heap.size w0 wr := by rw [hs0]; exact HB9.out
          refine ⟨_, _, _, rfl, ?_, word_of hn hm (g := V.heap.size + 1) (h := w.heap.size + 1 + 1 + 1) (p0 := .iface 41 (.pointer (some ⟨V.heap.size, 0, none⟩))) (i0 := .iface 32 (.pointer (some ⟨w.heap.size + 1 + 1, 0, none⟩))) (W := wr.heap.size) (D := V.heap.size) ?_ ?_ ?_ ?_ (HR9.out.below hbW) ((hr0.below l0).below hbW) (.inl rfl), ?_⟩
          · have := hB0.size; omega
          · simp [go_sem]
          · simp [go_sem]
          · exact cell_below hbW (cell_below l0 hd0)
          · have := hB0.size; have := V9.out; omega
          · exact (below_next hB0 l0).alloc (by have := hB0.size; omega) _
set_option maxRecDepth 100000 in
set_option maxHeartbeats 4000000 in
theorem uqb_1_1 (n m : Nat) (s : ByteArray) (w : World) (hn : n ≤ 65536) (hm : m ≤ 65536) :
    Calls Try.prog 15 #[.int .i64 n, .int .i64 1, .int .i64 m, .int .i64 1, .string s] w (UqMade n w) := by
  have hmk := mk_parts m hm
  go_enter Try.func15, Try.ntmps15
  go_wp2_with fail
  refine wp_gen (fun U => ∃ w0 : World, (Below w.heap.size w w0 ∧ w0.heap.size = w.heap.size + 1 + 1 + 1) ∧ RB (w.heap.size + 1 + 1 + 1) m (.iface 32 (.pointer (some ⟨w.heap.size + 1 + 1, 0, none⟩))) w0 0 U) ?_ ?_
  · refine ⟨_, ⟨?_, ?_⟩, rb_start ?_ hm ?_⟩
    · go_grown
    · simp
    · simp
    · first | exact made_cells _ _ rfl | exact toList_madeCells_one _ _ | simp [toList_madeCells_one]
  rintro U ⟨w00, hw, hG⟩
  have HG := Lib.hid hG
  have HW := Lib.hid hw
  clear hG hw hmk
  go_loopw [16] (fun i wr => ∃ k : Nat, k ≤ m ∧ i = .int .i64 k ∧ Hid (RB (w.heap.size + 1 + 1 + 1) m (.iface 32 (.pointer (some ⟨w.heap.size + 1 + 1, 0, none⟩))) w00 k wr)) (fun i _ => m - (intOf i).toNat)
  case atStart => exact ⟨0, Nat.zero_le _, rfl, HG⟩
  case round =>
    obtain ⟨k, hk, rfl, HRR⟩ := hrel
    clear HG
    by_cases hlt : k < m
    · have c2 := rb_cell HRR.out hlt
      have f2 := HRR.out.1.1.frozenAt k
      have z2 := World.block_lt_of_cell? _ _ c2
      simp only at z2
      by_cases hk0 : k = 0
      · subst hk0
        go_wp2_with fail
        go_roundw
        case rel => exact ⟨1, by omega, by go_num, Lib.hid (rb_first HRR.out hlt)⟩
        case measure => simp [intOf]; omega
      · have e1 : ((k : Int) == 0) = false := by simp; omega
        go_wp2_with fail
        go_roundw
        case rel => exact ⟨k + 1, by omega, by go_num, Lib.hid (rb_next HRR.out hlt (by omega) _)⟩
        case measure => simp [intOf]; omega
    · obtain rfl : k = m := by omega
      have HR8 := Lib.hid (fill_row HRR.out.1 (fun i _ => uqV_good ⟨_, .inl rfl⟩ i))
      have HB8 := Lib.hid (show Below w.heap.size w wr from by have := HRR.out.1.2.1; have h0 := HW.out; exact below_via h0.1 (by rw [h0.2]; exact this) h0.1.size)
      have HZ := Lib.hid HRR.out.1.2.2
      clear HRR
      refine wp_gen (fun V => RowV V (w.heap.size + 1 + 1 + 1) k (uqV (w.heap.size + 1 + 1 + 1) (.iface 32 (.pointer (some ⟨w.heap.size + 1 + 1, 0, none⟩)))) ∧ Below w.heap.size w V ∧ w.heap.size + 1 + 1 + 1 < V.heap.size) ⟨HR8.out, HB8.out, HZ.out⟩ ?_
      rintro V ⟨hv1, hv2, hv3⟩
      have V1 := Lib.hid hv1
      have V2 := Lib.hid hv2
      have V9 := Lib.hid hv3
      clear hv1 hv2 hv3 HR8 HB8 HZ
      have hmk := mk_parts n hn
      go_wp2_with fail
      refine wp_gen (fun U => ∃ w0 : World, Below w.heap.size w w0 ∧ w0.heap.size = V.heap.size + 1 + 1 ∧ w0.cell? ⟨V.heap.size, 5, none⟩ = some (.slice (some ⟨w.heap.size + 1 + 1 + 1, 0, none⟩) k k) ∧ RowV w0 (w.heap.size + 1 + 1 + 1) k (uqV (w.heap.size + 1 + 1 + 1) (.iface 32 (.pointer (some ⟨w.heap.size + 1 + 1, 0, none⟩)))) ∧ RB (V.heap.size + 1 + 1) n (.iface 32 (.pointer (some ⟨V.heap.size + 1, 0, none⟩))) w0 0 U) ?_ ?_
      · refine ⟨_, ?_, ?_, ?_, ?_, rb_start ?_ hn ?_⟩
        · exact below_next V2.out (by go_grown)
        · simp
        · simp [go_sem]
        · exact V1.out.below (by go_grown)
        · simp
        · first | exact made_cells _ _ rfl | exact toList_madeCells_one _ _ | simp [toList_madeCells_one]
      rintro U ⟨w0, hb0, hs0, hd0, hr0, hG⟩
      have HG := Lib.hid hG
      have H0 := Lib.hid (And.intro hb0 (And.intro hs0 (And.intro hd0 hr0)))
      clear hG hb0 hs0 hd0 hr0 hmk
      go_loopw [20] (fun i wr => ∃ k : Nat, k ≤ n ∧ i = .int .i64 k ∧ Hid (RB (V.heap.size + 1 + 1) n (.iface 32 (.pointer (some ⟨V.heap.size + 1, 0, none⟩))) w0 k wr)) (fun i _ => n - (intOf i).toNat)
      case atStart => exact ⟨0, Nat.zero_le _, rfl, HG⟩
      case round =>
        obtain ⟨k, hk, rfl, HRR⟩ := hrel
        clear HG
        by_cases hlt : k < n
        · have c2 := rb_cell HRR.out hlt
          have f2 := HRR.out.1.1.frozenAt k
          have z2 := World.block_lt_of_cell? _ _ c2
          simp only at z2
          by_cases hk0 : k = 0
          · subst hk0
            go_wp2_with fail
            go_roundw
            case rel => exact ⟨1, by omega, by go_num, Lib.hid (rb_first HRR.out hlt)⟩
            case measure => simp [intOf]; omega
          · have e1 : ((k : Int) == 0) = false := by simp; omega
            go_wp2_with fail
            go_roundw
            case rel => exact ⟨k + 1, by omega, by go_num, Lib.hid (rb_next HRR.out hlt (by omega) _)⟩
            case measure => simp [intOf]; omega
        · obtain rfl : k = n := by omega
          have HR9 := Lib.hid (fill_row HRR.out.1 (fun i _ => uqV_good ⟨_, .inl rfl⟩ i))
          have HB9 := Lib.hid HRR.out.1.2.1
          have z9 := HRR.out.1.2.2
          clear HRR
          go_wp2_with fail
          refine bodyPost_ret (results_tmp3 rfl _ _ _) rfl ?_
          obtain ⟨hB0, hs0, hd0, hr0⟩ := H0.out
          have hbW : Below wr.heap.size wr (wr.alloc (.cells #[.slice (some ⟨V.heap.size + 1 + 1, 0, none⟩) k k] 51)) := (Below.refl _ _).alloc (Nat.le_refl _) _
          have l0 : Below w0.heap.size w0 wr := by rw [hs0]; exact HB9.out
          refine ⟨_, _, _, rfl, ?_, word_of hn hm (g := V.heap.size + 1 + 1) (h := w.heap.size + 1 + 1 + 1) (p0 := .iface 32 (.pointer (some ⟨V.heap.size + 1, 0, none⟩))) (i0 := .iface 32 (.pointer (some ⟨w.heap.size + 1 + 1, 0, none⟩))) (W := wr.heap.size) (D := V.heap.size) ?_ ?_ ?_ ?_ (HR9.out.below hbW) ((hr0.below l0).below hbW) (.inr (fun b e => by injection e with e; simp at e)), ?_⟩
          · have := hB0.size; omega
          · simp [go_sem]
          · simp [go_sem]
          · exact cell_below hbW (cell_below l0 hd0)
          · have := hB0.size; have := V9.out; omega
          · exact (below_next hB0 l0).alloc (by have := hB0.size; omega) _
set_option maxRecDepth 100000 in
set_option maxHeartbeats 4000000 in
theorem uqb_1_2 (n m : Nat) (s : ByteArray) (w : World) (hn : n ≤ 65536) (hm : m ≤ 65536) :
    Calls Try.prog 15 #[.int .i64 n, .int .i64 2, .int .i64 m, .int .i64 1, .string s] w (UqMade n w) := by
  have hmk := mk_parts m hm
  go_enter Try.func15, Try.ntmps15
  go_wp2_with fail
  refine wp_gen (fun U => ∃ w0 : World, (Below w.heap.size w w0 ∧ w0.heap.size = w.heap.size + 1 + 1 + 1) ∧ RB (w.heap.size + 1 + 1 + 1) m (.iface 32 (.pointer (some ⟨w.heap.size + 1 + 1, 0, none⟩))) w0 0 U) ?_ ?_
  · refine ⟨_, ⟨?_, ?_⟩, rb_start ?_ hm ?_⟩
    · go_grown
    · simp
    · simp
    · first | exact made_cells _ _ rfl | exact toList_madeCells_one _ _ | simp [toList_madeCells_one]
  rintro U ⟨w00, hw, hG⟩
  have HG := Lib.hid hG
  have HW := Lib.hid hw
  clear hG hw hmk
  go_loopw [16] (fun i wr => ∃ k : Nat, k ≤ m ∧ i = .int .i64 k ∧ Hid (RB (w.heap.size + 1 + 1 + 1) m (.iface 32 (.pointer (some ⟨w.heap.size + 1 + 1, 0, none⟩))) w00 k wr)) (fun i _ => m - (intOf i).toNat)
  case atStart => exact ⟨0, Nat.zero_le _, rfl, HG⟩
  case round =>
    obtain ⟨k, hk, rfl, HRR⟩ := hrel
    clear HG
    by_cases hlt : k < m
    · have c2 := rb_cell HRR.out hlt
      have f2 := HRR.out.1.1.frozenAt k
      have z2 := World.block_lt_of_cell? _ _ c2
      simp only at z2
      by_cases hk0 : k = 0
      · subst hk0
        go_wp2_with fail
        go_roundw
        case rel => exact ⟨1, by omega, by go_num, Lib.hid (rb_first HRR.out hlt)⟩
        case measure => simp [intOf]; omega
      · have e1 : ((k : Int) == 0) = false := by simp; omega
        go_wp2_with fail
        go_roundw
        case rel => exact ⟨k + 1, by omega, by go_num, Lib.hid (rb_next HRR.out hlt (by omega) _)⟩
        case measure => simp [intOf]; omega
    · obtain rfl : k = m := by omega
      have HR8 := Lib.hid (fill_row HRR.out.1 (fun i _ => uqV_good ⟨_, .inl rfl⟩ i))
      have HB8 := Lib.hid (show Below w.heap.size w wr from by have := HRR.out.1.2.1; have h0 := HW.out; exact below_via h0.1 (by rw [h0.2]; exact this) h0.1.size)
      have HZ := Lib.hid HRR.out.1.2.2
      clear HRR
      refine wp_gen (fun V => RowV V (w.heap.size + 1 + 1 + 1) k (uqV (w.heap.size + 1 + 1 + 1) (.iface 32 (.pointer (some ⟨w.heap.size + 1 + 1, 0, none⟩)))) ∧ Below w.heap.size w V ∧ w.heap.size + 1 + 1 + 1 < V.heap.size) ⟨HR8.out, HB8.out, HZ.out⟩ ?_
      rintro V ⟨hv1, hv2, hv3⟩
      have V1 := Lib.hid hv1
      have V2 := Lib.hid hv2
      have V9 := Lib.hid hv3
      clear hv1 hv2 hv3 HR8 HB8 HZ
      have hmk := mk_parts n hn
      go_wp2_with fail
      refine wp_gen (fun U => ∃ w0 : World, Below w.heap.size w w0 ∧ w0.heap.size = V.heap.size + 1 + 1 + 1 ∧ w0.cell? ⟨V.heap.size, 5, none⟩ = some (.slice (some ⟨w.heap.size + 1 + 1 + 1, 0, none⟩) k k) ∧ RowV w0 (w.heap.size + 1 + 1 + 1) k (uqV (w.heap.size + 1 + 1 + 1) (.iface 32 (.pointer (some ⟨w.heap.size + 1 + 1, 0, none⟩)))) ∧ RB (V.heap.size + 1 + 1 + 1) n (.iface 31 (.pointer (some ⟨V.heap.size + 1 + 1, 0, none⟩))) w0 0 U) ?_ ?_
      · refine ⟨_, ?_, ?_, ?_, ?_, rb_start ?_ hn ?_⟩
        · exact below_next V2.out (by go_grown)
        · simp
        · simp [go_sem]
        · exact V1.out.below (by go_grown)
        · simp
        · first | exact made_cells _ _ rfl | exact toList_madeCells_one _ _ | simp [toList_madeCells_one]
      rintro U ⟨w0, hb0, hs0, hd0, hr0, hG⟩
      have HG := Lib.hid hG
      have H0 := Lib.hid (And.intro hb0 (And.intro hs0 (And.intro hd0 hr0)))
      clear hG hb0 hs0 hd0 hr0 hmk
      go_loopw [20] (fun i wr => ∃ k : Nat, k ≤ n ∧ i = .int .i64 k ∧ Hid (RB (V.heap.size + 1 + 1 + 1) n (.iface 31 (.pointer (some ⟨V.heap.size + 1 + 1, 0, none⟩))) w0 k wr)) (fun i _ => n - (intOf i).toNat)
      case atStart => exact ⟨0, Nat.zero_le _, rfl, HG⟩
      case round =>
        obtain ⟨k, hk, rfl, HRR⟩ := hrel
        clear HG
        by_cases hlt : k < n
        · have c2 := rb_cell HRR.out hlt
          have f2 := HRR.out.1.1.frozenAt k
          have z2 := World.block_lt_of_cell? _ _ c2
          simp only at z2
          by_cases hk0 : k = 0
          · subst hk0
            go_wp2_with fail
            go_roundw
            case rel => exact ⟨1, by omega, by go_num, Lib.hid (rb_first HRR.out hlt)⟩
            case measure => simp [intOf]; omega
          · have e1 : ((k : Int) == 0) = false := by simp; omega
            go_wp2_with fail
            go_roundw
            case rel => exact ⟨k + 1, by omega, by go_num, Lib.hid (rb_next HRR.out hlt (by omega) _)⟩
            case measure => simp [intOf]; omega
        · obtain rfl : k = n := by omega
          have HR9 := Lib.hid (fill_row HRR.out.1 (fun i _ => uqV_good ⟨_, .inr (.inl rfl)⟩ i))
          have HB9 := Lib.hid HRR.out.1.2.1
          have z9 := HRR.out.1.2.2
          clear HRR
          go_wp2_with fail
          refine bodyPost_ret (results_tmp3 rfl _ _ _) rfl ?_
          obtain ⟨hB0, hs0, hd0, hr0⟩ := H0.out
          have hbW : Below wr.heap.size wr (wr.alloc (.cells #[.slice (some ⟨V.heap.size + 1 + 1 + 1, 0, none⟩) k k] 51)) := (Below.refl _ _).alloc (Nat.le_refl _) _
          have l0 : Below w0.heap.size w0 wr := by rw [hs0]; exact HB9.out
          refine ⟨_, _, _, rfl, ?_, word_of hn hm (g := V.heap.size + 1 + 1 + 1) (h := w.heap.size + 1 + 1 + 1) (p0 := .iface 31 (.pointer (some ⟨V.heap.size + 1 + 1, 0, none⟩))) (i0 := .iface 32 (.pointer (some ⟨w.heap.size + 1 + 1, 0, none⟩))) (W := wr.heap.size) (D := V.heap.size) ?_ ?_ ?_ ?_ (HR9.out.below hbW) ((hr0.below l0).below hbW) (.inr (fun b e => by injection e with e; simp at e)), ?_⟩
          · have := hB0.size; omega
          · simp [go_sem]
          · simp [go_sem]
          · exact cell_below hbW (cell_below l0 hd0)
          · have := hB0.size; have := V9.out; omega
          · exact (below_next hB0 l0).alloc (by have := hB0.size; omega) _
set_option maxRecDepth 100000 in
set_option maxHeartbeats 4000000 in
theorem uqb_2_0 (n m : Nat) (s : ByteArray) (w : World) (hn : n ≤ 65536) (hm : m ≤ 65536) :
    Calls Try.prog 15 #[.int .i64 n, .int .i64 0, .int .i64 m, .int .i64 2, .string s] w (UqMade n w) := by
  have hmk := mk_parts m hm
  go_enter Try.func15, Try.ntmps15
  go_wp2_with fail
  refine wp_gen (fun U => ∃ w0 : World, (Below w.heap.size w w0 ∧ w0.heap.size = w.heap.size + 1 + 1 + 1) ∧ RB (w.heap.size + 1 + 1 + 1) m (.iface 116 (.pointer (some ⟨w.heap.size + 1 + 1, 0, none⟩))) w0 0 U) ?_ ?_
  · refine ⟨_, ⟨?_, ?_⟩, rb_start ?_ hm ?_⟩
    · go_grown
    · simp
    · simp
    · first | exact made_cells _ _ rfl | exact toList_madeCells_one _ _ | simp [toList_madeCells_one]
  rintro U ⟨w00, hw, hG⟩
  have HG := Lib.hid hG
  have HW := Lib.hid hw
  clear hG hw hmk
  go_loopw [16] (fun i wr => ∃ k : Nat, k ≤ m ∧ i = .int .i64 k ∧ Hid (RB (w.heap.size + 1 + 1 + 1) m (.iface 116 (.pointer (some ⟨w.heap.size + 1 + 1, 0, none⟩))) w00 k wr)) (fun i _ => m - (intOf i).toNat)
  case atStart => exact ⟨0, Nat.zero_le _, rfl, HG⟩
  case round =>
    obtain ⟨k, hk, rfl, HRR⟩ := hrel
    clear HG
    by_cases hlt : k < m
    · have c2 := rb_cell HRR.out hlt
      have f2 := HRR.out.1.1.frozenAt k
      have z2 := World.block_lt_of_cell? _ _ c2
      simp only at z2
      by_cases hk0 : k = 0
      · subst hk0
        go_wp2_with fail
        go_roundw
        case rel => exact ⟨1, by omega, by go_num, Lib.hid (rb_first HRR.out hlt)⟩
        case measure => simp [intOf]; omega
      · have e1 : ((k : Int) == 0) = false := by simp; omega
        go_wp2_with fail
        go_roundw
        case rel => exact ⟨k + 1, by omega, by go_num, Lib.hid (rb_next HRR.out hlt (by omega) _)⟩
        case measure => simp [intOf]; omega
    · obtain rfl : k = m := by omega
      have HR8 := Lib.hid (fill_row HRR.out.1 (fun i _ => uqV_good ⟨_, .inr (.inr (.inl rfl))⟩ i))
      have HB8 := Lib.hid (show Below w.heap.size w wr from by have := HRR.out.1.2.1; have h0 := HW.out; exact below_via h0.1 (by rw [h0.2]; exact this) h0.1.size)
      have HZ := Lib.hid HRR.out.1.2.2
      clear HRR
      refine wp_gen (fun V => RowV V (w.heap.size + 1 + 1 + 1) k (uqV (w.heap.size + 1 + 1 + 1) (.iface 116 (.pointer (some ⟨w.heap.size + 1 + 1, 0, none⟩)))) ∧ Below w.heap.size w V ∧ w.heap.size + 1 + 1 + 1 < V.heap.size) ⟨HR8.out, HB8.out, HZ.out⟩ ?_
      rintro V ⟨hv1, hv2, hv3⟩
      have V1 := Lib.hid hv1
      have V2 := Lib.hid hv2
      have V9 := Lib.hid hv3
      clear hv1 hv2 hv3 HR8 HB8 HZ
      have hmk := mk_parts n hn
      go_wp2_with fail
      refine wp_gen (fun U => ∃ w0 : World, Below w.heap.size w w0 ∧ w0.heap.size = V.heap.size + 1 ∧ w0.cell? ⟨V.heap.size, 5, none⟩ = some (.slice (some ⟨w.heap.size + 1 + 1 + 1, 0, none⟩) k k) ∧ RowV w0 (w.heap.size + 1 + 1 + 1) k (uqV (w.heap.size + 1 + 1 + 1) (.iface 116 (.pointer (some ⟨w.heap.size + 1 + 1, 0, none⟩)))) ∧ RB (V.heap.size + 1) n (.iface 41 (.pointer (some ⟨V.heap.size, 0, none⟩))) w0 0 U) ?_ ?_
      · refine ⟨_, ?_, ?_, ?_, ?_, rb_start ?_ hn ?_⟩
        · exact below_next V2.out (by go_grown)
        · simp
        · simp [go_sem]
        · exact V1.out.below (by go_grown)
        · simp
        · first | exact made_cells _ _ rfl | exact toList_madeCells_one _ _ | simp [toList_madeCells_one]
      rintro U ⟨w0, hb0, hs0, hd0, hr0, hG⟩
      have HG := Lib.hid hG
      have H0 := Lib.hid (And.intro hb0 (And.intro hs0 (And.intro hd0 hr0)))
      clear hG hb0 hs0 hd0 hr0 hmk
      go_loopw [20] (fun i wr => ∃ k : Nat, k ≤ n ∧ i = .int .i64 k ∧ Hid (RB (V.heap.size + 1) n (.iface 41 (.pointer (some ⟨V.heap.size, 0, none⟩))) w0 k wr)) (fun i _ => n - (intOf i).toNat)
      case atStart => exact ⟨0, Nat.zero_le _, rfl, HG⟩
      case round =>
        obtain ⟨k, hk, rfl, HRR⟩ := hrel
        clear HG
        by_cases hlt : k < n
        · have c2 := rb_cell HRR.out hlt
          have f2 := HRR.out.1.1.frozenAt k
          have z2 := World.block_lt_of_cell? _ _ c2
          simp only at z2
          by_cases hk0 : k = 0
          · subst hk0
            go_wp2_with fail
            go_roundw
            case rel => exact ⟨1, by omega, by go_num, Lib.hid (rb_first HRR.out hlt)⟩
            case measure => simp [intOf]; omega
          · have e1 : ((k : Int) == 0) = false := by simp; omega
            go_wp2_with fail
            go_roundw
            case rel => exact ⟨k + 1, by omega, by go_num, Lib.hid (rb_next HRR.out hlt (by omega) _)⟩
            case measure => simp [intOf]; omega
        · obtain rfl : k = n := by omega
          have HR9 := Lib.hid (fill_row HRR.out.1 (fun i _ => uqV_good ⟨_, .inr (.inr (.inr rfl))⟩ i))
          have HB9 := Lib.hid HRR.out.1.2.1
          have z9 := HRR.out.1.2.2
          clear HRR
          go_wp2_with fail
          refine bodyPost_ret (results_tmp3 rfl _ _ _) rfl ?_
          obtain ⟨hB0, hs0, hd0, hr0⟩ := H0.out
          have hbW : Below wr.heap.size wr (wr.alloc (.cells #[.slice (some ⟨V.heap.size + 1, 0, none⟩) k k] 51)) := (Below.refl _ _).alloc (Nat.le_refl _) _
          have l0 : Below w0.heap.size w0 wr := by rw [hs0]; exact HB9.out
          refine ⟨_, _, _, rfl, ?_, word_of hn hm (g := V.heap.size + 1) (h := w.heap.size + 1 + 1 + 1) (p0 := .iface 41 (.pointer (some ⟨V.heap.size, 0, none⟩))) (i0 := .iface 116 (.pointer (some ⟨w.heap.size + 1 + 1, 0, none⟩))) (W := wr.heap.size) (D := V.heap.size) ?_ ?_ ?_ ?_ (HR9.out.below hbW) ((hr0.below l0).below hbW) (.inl rfl), ?_⟩
          · have := hB0.size; omega
          · simp [go_sem]
          · simp [go_sem]
          · exact cell_below hbW (cell_below l0 hd0)
          · have := hB0.size; have := V9.out; omega
          · exact (below_next hB0 l0).alloc (by have := hB0.size; omega) _
set_option maxRecDepth 100000 in
set_option maxHeartbeats 4000000 in
theorem uqb_2_1 (n m : Nat) (s : ByteArray) (w : World) (hn : n ≤ 65536) (hm : m ≤ 65536) :
    Calls Try.prog 15 #[.int .i64 n, .int .i64 1, .int .i64 m, .int .i64 2, .string s] w (UqMade n w) := by
  have hmk := mk_parts m hm
  go_enter Try.func15, Try.ntmps15
  go_wp2_with fail
  refine wp_gen (fun U => ∃ w0 : World, (Below w.heap.size w w0 ∧ w0.heap.size = w.heap.size + 1 + 1 + 1) ∧ RB (w.heap.size + 1 + 1 + 1) m (.iface 116 (.pointer (some ⟨w.heap.size + 1 + 1, 0, none⟩))) w0 0 U) ?_ ?_
  · refine ⟨_, ⟨?_, ?_⟩, rb_start ?_ hm ?_⟩
    · go_grown
    · simp
    · simp
    · first | exact made_cells _ _ rfl | exact toList_madeCells_one _ _ | simp [toList_madeCells_one]
  rintro U ⟨w00, hw, hG⟩
  have HG := Lib.hid hG
  have HW := Lib.hid hw
  clear hG hw hmk
  go_loopw [16] (fun i wr => ∃ k : Nat, k ≤ m ∧ i = .int .i64 k ∧ Hid (RB (w.heap.size + 1 + 1 + 1) m (.iface 116 (.pointer (some ⟨w.heap.size + 1 + 1, 0, none⟩))) w00 k wr)) (fun i _ => m - (intOf i).toNat)
  case atStart => exact ⟨0, Nat.zero_le _, rfl, HG⟩
  case round =>
    obtain ⟨k, hk, rfl, HRR⟩ := hrel
    clear HG
    by_cases hlt : k < m
    · have c2 := rb_cell HRR.out hlt
      have f2 := HRR.out.1.1.frozenAt k
      have z2 := World.block_lt_of_cell? _ _ c2
      simp only at z2
      by_cases hk0 : k = 0
      · subst hk0
        go_wp2_with fail
        go_roundw
        case rel => exact ⟨1, by omega, by go_num, Lib.hid (rb_first HRR.out hlt)⟩
        case measure => simp [intOf]; omega
      · have e1 : ((k : Int) == 0) = false := by simp; omega
        go_wp2_with fail
        go_roundw
        case rel => exact ⟨k + 1, by omega, by go_num, Lib.hid (rb_next HRR.out hlt (by omega) _)⟩
        case measure => simp [intOf]; omega
    · obtain rfl : k = m := by omega
      have HR8 := Lib.hid (fill_row HRR.out.1 (fun i _ => uqV_good ⟨_, .inr (.inr (.inl rfl))⟩ i))
      have HB8 := Lib.hid (show Below w.heap.size w wr from by have := HRR.out.1.2.1; have h0 := HW.out; exact below_via h0.1 (by rw [h0.2]; exact this) h0.1.size)
      have HZ := Lib.hid HRR.out.1.2.2
      clear HRR
      refine wp_gen (fun V => RowV V (w.heap.size + 1 + 1 + 1) k (uqV (w.heap.size + 1 + 1 + 1) (.iface 116 (.pointer (some ⟨w.heap.size + 1 + 1, 0, none⟩)))) ∧ Below w.heap.size w V ∧ w.heap.size + 1 + 1 + 1 < V.heap.size) ⟨HR8.out, HB8.out, HZ.out⟩ ?_
      rintro V ⟨hv1, hv2, hv3⟩
      have V1 := Lib.hid hv1
      have V2 := Lib.hid hv2
      have V9 := Lib.hid hv3
      clear hv1 hv2 hv3 HR8 HB8 HZ
      have hmk := mk_parts n hn
      go_wp2_with fail
      refine wp_gen (fun U => ∃ w0 : World, Below w.heap.size w w0 ∧ w0.heap.size = V.heap.size + 1 + 1 ∧ w0.cell? ⟨V.heap.size, 5, none⟩ = some (.slice (some ⟨w.heap.size + 1 + 1 + 1, 0, none⟩) k k) ∧ RowV w0 (w.heap.size + 1 + 1 + 1) k (uqV (w.heap.size + 1 + 1 + 1) (.iface 116 (.pointer (some ⟨w.heap.size + 1 + 1, 0, none⟩)))) ∧ RB (V.heap.size + 1 + 1) n (.iface 32 (.pointer (some ⟨V.heap.size + 1, 0, none⟩))) w0 0 U) ?_ ?_
      · refine ⟨_, ?_, ?_, ?_, ?_, rb_start ?_ hn ?_⟩
        · exact below_next V2.out (by go_grown)
        · simp
        · simp [go_sem]
        · exact V1.out.below (by go_grown)
        · simp
        · first | exact made_cells _ _ rfl | exact toList_madeCells_one _ _ | simp [toList_madeCells_one]
      rintro U ⟨w0, hb0, hs0, hd0, hr0, hG⟩
      have HG := Lib.hid hG
      have H0 := Lib.hid (And.intro hb0 (And.intro hs0 (And.intro hd0 hr0)))
      clear hG hb0 hs0 hd0 hr0 hmk
      go_loopw [20] (fun i wr => ∃ k : Nat, k ≤ n ∧ i = .int .i64 k ∧ Hid (RB (V.heap.size + 1 + 1) n (.iface 32 (.pointer (some ⟨V.heap.size + 1, 0, none⟩))) w0 k wr)) (fun i _ => n - (intOf i).toNat)
      case atStart => exact ⟨0, Nat.zero_le _, rfl, HG⟩
      case round =>
        obtain ⟨k, hk, rfl, HRR⟩ := hrel
        clear HG
        by_cases hlt : k < n
        · have c2 := rb_cell HRR.out hlt
          have f2 := HRR.out.1.1.frozenAt k
          have z2 := World.block_lt_of_cell? _ _ c2
          simp only at z2
          by_cases hk0 : k = 0
          · subst hk0
            go_wp2_with fail
            go_roundw
            case rel => exact ⟨1, by omega, by go_num, Lib.hid (rb_first HRR.out hlt)⟩
            case measure => simp [intOf]; omega
          · have e1 : ((k : Int) == 0) = false := by simp; omega
            go_wp2_with fail
            go_roundw
            case rel => exact ⟨k + 1, by omega, by go_num, Lib.hid (rb_next HRR.out hlt (by omega) _)⟩
            case measure => simp [intOf]; omega
        · obtain rfl : k = n := by omega
          have HR9 := Lib.hid (fill_row HRR.out.1 (fun i _ => uqV_good ⟨_, .inl rfl⟩ i))
          have HB9 := Lib.hid HRR.out.1.2.1
          have z9 := HRR.out.1.2.2
          clear HRR
          go_wp2_with fail
          refine bodyPost_ret (results_tmp3 rfl _ _ _) rfl ?_
          obtain ⟨hB0, hs0, hd0, hr0⟩ := H0.out
          have hbW : Below wr.heap.size wr (wr.alloc (.cells #[.slice (some ⟨V.heap.size + 1 + 1, 0, none⟩) k k] 51)) := (Below.refl _ _).alloc (Nat.le_refl _) _
          have l0 : Below w0.heap.size w0 wr := by rw [hs0]; exact HB9.out
          refine ⟨_, _, _, rfl, ?_, word_of hn hm (g := V.heap.size + 1 + 1) (h := w.heap.size + 1 + 1 + 1) (p0 := .iface 32 (.pointer (some ⟨V.heap.size + 1, 0, none⟩))) (i0 := .iface 116 (.pointer (some ⟨w.heap.size + 1 + 1, 0, none⟩))) (W := wr.heap.size) (D := V.heap.size) ?_ ?_ ?_ ?_ (HR9.out.below hbW) ((hr0.below l0).below hbW) (.inr (fun b e => by injection e with e; simp at e)), ?_⟩
          · have := hB0.size; omega
          · simp [go_sem]
          · simp [go_sem]
          · exact cell_below hbW (cell_below l0 hd0)
          · have := hB0.size; have := V9.out; omega
          · exact (below_next hB0 l0).alloc (by have := hB0.size; omega) _
set_option maxRecDepth 100000 in
set_option maxHeartbeats 4000000 in
theorem uqb_2_2 (n m : Nat) (s : ByteArray) (w : World) (hn : n ≤ 65536) (hm : m ≤ 65536) :
    Calls Try.prog 15 #[.int .i64 n, .int .i64 2, .int .i64 m, .int .i64 2, .string s] w (UqMade n w) := by
  have hmk := mk_parts m hm
  go_enter Try.func15, Try.ntmps15
  go_wp2_with fail
  refine wp_gen (fun U => ∃ w0 : World, (Below w.heap.size w w0 ∧ w0.heap.size = w.heap.size + 1 + 1 + 1) ∧ RB (w.heap.size + 1 + 1 + 1) m (.iface 116 (.pointer (some ⟨w.heap.size + 1 + 1, 0, none⟩))) w0 0 U) ?_ ?_
  · refine ⟨_, ⟨?_, ?_⟩, rb_start ?_ hm ?_⟩
    · go_grown
    · simp
    · simp
    · first | exact made_cells _ _ rfl | exact toList_madeCells_one _ _ | simp [toList_madeCells_one]
  rintro U ⟨w00, hw, hG⟩
  have HG := Lib.hid hG
  have HW := Lib.hid hw
  clear hG hw hmk
  go_loopw [16] (fun i wr => ∃ k : Nat, k ≤ m ∧ i = .int .i64 k ∧ Hid (RB (w.heap.size + 1 + 1 + 1) m (.iface 116 (.pointer (some ⟨w.heap.size + 1 + 1, 0, none⟩))) w00 k wr)) (fun i _ => m - (intOf i).toNat)
  case atStart => exact ⟨0, Nat.zero_le _, rfl, HG⟩
  case round =>
    obtain ⟨k, hk, rfl, HRR⟩ := hrel
    clear HG
    by_cases hlt : k < m
    · have c2 := rb_cell HRR.out hlt
      have f2 := HRR.out.1.1.frozenAt k
      have z2 := World.block_lt_of_cell? _ _ c2
      simp only at z2
      by_cases hk0 : k = 0
      · subst hk0
        go_wp2_with fail
        go_roundw
        case rel => exact ⟨1, by omega, by go_num, Lib.hid (rb_first HRR.out hlt)⟩
        case measure => simp [intOf]; omega
      · have e1 : ((k : Int) == 0) = false := by simp; omega
        go_wp2_with fail
        go_roundw
        case rel => exact ⟨k + 1, by omega, by go_num, Lib.hid (rb_next HRR.out hlt (by omega) _)⟩
        case measure => simp [intOf]; omega
    · obtain rfl : k = m := by omega
      have HR8 := Lib.hid (fill_row HRR.out.1 (fun i _ => uqV_good ⟨_, .inr (.inr (.inl rfl))⟩ i))
      have HB8 := Lib.hid (show Below w.heap.size w wr from by have := HRR.out.1.2.1; have h0 := HW.out; exact below_via h0.1 (by rw [h0.2]; exact this) h0.1.size)
      have HZ := Lib.hid HRR.out.1.2.2
      clear HRR
      refine wp_gen (fun V => RowV V (w.heap.size + 1 + 1 + 1) k (uqV (w.heap.size + 1 + 1 + 1) (.iface 116 (.pointer (some ⟨w.heap.size + 1 + 1, 0, none⟩)))) ∧ Below w.heap.size w V ∧ w.heap.size + 1 + 1 + 1 < V.heap.size) ⟨HR8.out, HB8.out, HZ.out⟩ ?_
      rintro V ⟨hv1, hv2, hv3⟩
      have V1 := Lib.hid hv1
      have V2 := Lib.hid hv2
      have V9 := Lib.hid hv3
      clear hv1 hv2 hv3 HR8 HB8 HZ
      have hmk := mk_parts n hn
      go_wp2_with fail
      refine wp_gen (fun U => ∃ w0 : World, Below w.heap.size w w0 ∧ w0.heap.size = V.heap.size + 1 + 1 + 1 ∧ w0.cell? ⟨V.heap.size, 5, none⟩ = some (.slice (some ⟨w.heap.size + 1 + 1 + 1, 0, none⟩) k k) ∧ RowV w0 (w.heap.size + 1 + 1 + 1) k (uqV (w.heap.size + 1 + 1 + 1) (.iface 116 (.pointer (some ⟨w.heap.size + 1 + 1, 0, none⟩)))) ∧ RB (V.heap.size + 1 + 1 + 1) n (.iface 31 (.pointer (some ⟨V.heap.size + 1 + 1, 0, none⟩))) w0 0 U) ?_ ?_
      · refine ⟨_, ?_, ?_, ?_, ?_, rb_start ?_ hn ?_⟩
        · exact below_next V2.out (by go_grown)
        · simp
        · simp [go_sem]
        · exact V1.out.below (by go_grown)
        · simp
        · first | exact made_cells _ _ rfl | exact toList_madeCells_one _ _ | simp [toList_madeCells_one]
      rintro U ⟨w0, hb0, hs0, hd0, hr0, hG⟩
      have HG := Lib.hid hG
      have H0 := Lib.hid (And.intro hb0 (And.intro hs0 (And.intro hd0 hr0)))
      clear hG hb0 hs0 hd0 hr0 hmk
      go_loopw [20] (fun i wr => ∃ k : Nat, k ≤ n ∧ i = .int .i64 k ∧ Hid (RB (V.heap.size + 1 + 1 + 1) n (.iface 31 (.pointer (some ⟨V.heap.size + 1 + 1, 0, none⟩))) w0 k wr)) (fun i _ => n - (intOf i).toNat)
      case atStart => exact ⟨0, Nat.zero_le _, rfl, HG⟩
      case round =>
        obtain ⟨k, hk, rfl, HRR⟩ := hrel
        clear HG
        by_cases hlt : k < n
        · have c2 := rb_cell HRR.out hlt
          have f2 := HRR.out.1.1.frozenAt k
          have z2 := World.block_lt_of_cell? _ _ c2
          simp only at z2
          by_cases hk0 : k = 0
          · subst hk0
            go_wp2_with fail
            go_roundw
            case rel => exact ⟨1, by omega, by go_num, Lib.hid (rb_first HRR.out hlt)⟩
            case measure => simp [intOf]; omega
          · have e1 : ((k : Int) == 0) = false := by simp; omega
            go_wp2_with fail
            go_roundw
            case rel => exact ⟨k + 1, by omega, by go_num, Lib.hid (rb_next HRR.out hlt (by omega) _)⟩
            case measure => simp [intOf]; omega
        · obtain rfl : k = n := by omega
          have HR9 := Lib.hid (fill_row HRR.out.1 (fun i _ => uqV_good ⟨_, .inr (.inl rfl)⟩ i))
          have HB9 := Lib.hid HRR.out.1.2.1
          have z9 := HRR.out.1.2.2
          clear HRR
          go_wp2_with fail
          refine bodyPost_ret (results_tmp3 rfl _ _ _) rfl ?_
          obtain ⟨hB0, hs0, hd0, hr0⟩ := H0.out
          have hbW : Below wr.heap.size wr (wr.alloc (.cells #[.slice (some ⟨V.heap.size + 1 + 1 + 1, 0, none⟩) k k] 51)) := (Below.refl _ _).alloc (Nat.le_refl _) _
          have l0 : Below w0.heap.size w0 wr := by rw [hs0]; exact HB9.out
          refine ⟨_, _, _, rfl, ?_, word_of hn hm (g := V.heap.size + 1 + 1 + 1) (h := w.heap.size + 1 + 1 + 1) (p0 := .iface 31 (.pointer (some ⟨V.heap.size + 1 + 1, 0, none⟩))) (i0 := .iface 116 (.pointer (some ⟨w.heap.size + 1 + 1, 0, none⟩))) (W := wr.heap.size) (D := V.heap.size) ?_ ?_ ?_ ?_ (HR9.out.below hbW) ((hr0.below l0).below hbW) (.inr (fun b e => by injection e with e; simp at e)), ?_⟩
          · have := hB0.size; omega
          · simp [go_sem]
          · simp [go_sem]
          · exact cell_below hbW (cell_below l0 hd0)
          · have := hB0.size; have := V9.out; omega
          · exact (below_next hB0 l0).alloc (by have := hB0.size; omega) _
end Go.Proofs.Ytdhoamfpeioieaa
