/- What the law on markIndex counts and copies; which nodes are kept. Conditions: the cells. -/
import Derived.Test.YtgeaokgcmhkoaaaMark2
import Derived.Test.YtgeaokgcmhkoaaaTBuild
namespace Go.Proofs.Ytgeaokgcmhkoaaa
open Go.RowKit
set_option linter.unusedVariables false
set_option linter.unusedSimpArgs false

theorem sorted_inj : ∀ {vs : List Value}, vs.Pairwise (fun y z => blk y < blk z) → ∀ {x y : Value}, x ∈ vs → y ∈ vs → blk x = blk y → x = y
  | [], _, _, _, hx, _, _ => by cases hx
  | v :: vs, h, x, y, hx, hy, e => by
    obtain ⟨h1, h2⟩ := List.pairwise_cons.1 h
    rcases List.mem_cons.1 hx with hx | hx
    · rcases List.mem_cons.1 hy with hy | hy
      · rw [hx, hy]
      · have := h1 y hy; rw [← hx] at this; omega
    · rcases List.mem_cons.1 hy with hy | hy
      · have := h1 x hx; rw [← hy] at this; omega
      · exact sorted_inj h2 hx hy e
theorem kept_flag : ∀ (vs : List Value) (ws : List Bool), vs.length = ws.length → vs.Pairwise (fun y z => blk y < blk z) → ∀ (i : Nat) (x : Value) (b : Bool), vs[i]? = some x → ws[i]? = some b → (keptL vs ws).any (fun y => decide (blk x = blk y)) = b
  | [], _, _, _, i, x, b, hx, _ => by simp at hx
  | v :: vs, [], h, _, _, _, _, _, _ => by simp at h
  | v :: vs, true :: ws, hl, h, i, x, b, hx, hb => by
    obtain ⟨h1, h2⟩ := List.pairwise_cons.1 h
    cases i with
    | zero =>
      simp at hx hb
      subst hx hb
      simp [keptL]
    | succ i =>
      simp at hx hb
      have hm : x ∈ vs := List.mem_of_getElem? hx
      have hne : ¬ blk x = blk v := by have := h1 x hm; omega
      have ih := kept_flag vs ws (by simpa using hl) h2 i x b hx hb
      simp [keptL, hne] at ih ⊢
      exact ih
  | v :: vs, false :: ws, hl, h, i, x, b, hx, hb => by
    obtain ⟨h1, h2⟩ := List.pairwise_cons.1 h
    cases i with
    | zero =>
      simp at hx hb
      subst hx hb
      simp only [keptL]
      rw [List.any_eq_false]
      intro y hy
      have hm := keptL_sub _ _ _ hy
      have := h1 y hm
      simp
      omega
    | succ i =>
      simp at hx hb
      have ih := kept_flag vs ws (by simpa using hl) h2 i x b hx hb
      simpa [keptL] using ih
def cnt : List Bool → Nat
  | [] => 0
  | true :: l => cnt l + 1
  | false :: l => cnt l
theorem cnt_kept : ∀ (vs : List Value) (ws : List Bool), vs.length = ws.length → (keptL vs ws).length = cnt ws
  | [], [], _ => rfl
  | [], _ :: _, h => by simp at h
  | _ :: _, [], h => by simp at h
  | v :: vs, true :: ws, h => by simp [keptL, cnt, cnt_kept vs ws (by simpa using h)]
  | v :: vs, false :: ws, h => by simp [keptL, cnt, cnt_kept vs ws (by simpa using h)]
theorem cnt_step : ∀ (ws : List Bool) (k : Nat) (b : Bool), ws[k]? = some b → cnt (ws.take (k + 1)) = cnt (ws.take k) + (if b = true then 1 else 0)
  | [], _, _, h => by simp at h
  | true :: l, 0, b, h => by simp at h; subst h; simp [cnt]
  | false :: l, 0, b, h => by simp at h; subst h; simp [cnt]
  | true :: l, k + 1, b, h => by
    have := cnt_step l k b (by simpa using h)
    simp only [List.take_succ_cons, cnt, this]; omega
  | false :: l, k + 1, b, h => by
    have := cnt_step l k b (by simpa using h)
    simp only [List.take_succ_cons, cnt, this]
theorem cnt_le : ∀ (l : List Bool), cnt l ≤ l.length
  | [] => Nat.le_refl _
  | true :: l => by have := cnt_le l; simp [cnt]; omega
  | false :: l => by have := cnt_le l; simp [cnt]; omega
set_option maxHeartbeats 2000000 in
theorem wcn_any (B gw n cap : Nat) (ws : List Bool) (r : Nat) (W : World) (hn : n ≤ 20000) (hl : ws.length = n) (hr : Hid (cnt ws = r)) (c3 : W.cell? ⟨B, 3, none⟩ = some (.slice (some ⟨gw, 0, none⟩) n cap)) (hc : ∀ i b, ws[i]? = some b → W.cell? ⟨gw, i, none⟩ = some (.bool b)) :
    Calls Try.prog 17 #[.pointer (some ⟨B, 0, none⟩)] W fun e w' => e = .returned (.int .i64 r) ∧ W = w' := by
  have z := World.block_lt_of_cell? _ _ c3
  simp only at z
  have HL := Lib.hid hl
  have HC := Lib.hid hc
  clear hl hc
  go_enter Try.func17, Try.ntmps17
  go_wp2_with fail
  go_loop [3, 4] (fun c i => ∃ k : Nat, k ≤ n ∧ i = .int .i64 k ∧ c = .int .i64 (cnt (ws.take k))) (fun _ i => n - (intOf i).toNat)
  case atStart => exact ⟨0, Nat.zero_le _, rfl, by simp [cnt]⟩
  case round =>
    obtain ⟨k, hk, rfl, rfl⟩ := hrel
    have hle := cnt_le (ws.take k)
    have hle2 : (ws.take k).length ≤ k := List.length_take_le _ _
    by_cases hlt : k < n
    · obtain ⟨b, hb⟩ : ∃ b, ws[k]? = some b := ⟨_, List.getElem?_eq_getElem (by have := HL.out; omega)⟩
      have cw := HC.out k b hb
      have HS := Lib.hid (cnt_step ws k b hb)
      have zg := World.block_lt_of_cell? _ _ cw
      simp only at zg
      clear hb
      cases b
      all_goals
        go_wp2_with fail
        go_round
        case rel => exact ⟨k + 1, by omega, by go_num, congrArg _ (by rw [HS.out]; simp)⟩
        case measure => simp [intOf]; omega
    · obtain rfl : k = n := by omega
      have e : cnt (ws.take k) = r := by rw [List.take_of_length_le (by have := HL.out; omega)]; exact hr.out
      rw [e]
      go_wp2_with fail
      go_ret
      exact ⟨rfl, rfl⟩
theorem info_clu : (Try.prog.info? 5).map (fun i => (i.zero, i.size, i.bytes)) = some (some (.int .u8 0), 1, 1) := by kernel_rfl
set_option maxRecDepth 100000 in
set_option maxHeartbeats 1000000 in
theorem clu_some (x : Addr) (len cap : Nat) (zs : List Int) (w : World) (hl : len ≤ zs.length) (hb : len ≤ 1048576) (hc : ∀ i, i < zs.length → w.cell? (x.add i) = some (.int .u8 (zs.getD i 0))) (hx : 0 < len → x.block < w.heap.size) :
    Calls Try.prog 12 #[.slice (some x) len cap] w fun e w' => e = .returned (.slice (some ⟨w.heap.size, 0, none⟩) len len) ∧ w'.ownsRow w.heap.size 5 1 (.slice (some ⟨w.heap.size, 0, none⟩) len len) len ((zs.take len).map (Value.int .u8)) ∧ Below w.heap.size w w' := by
  obtain ⟨i0, hi, hz0, hz1, hz2⟩ := info_parts info_clu
  have HC := Lib.hid hc
  clear hc
  have hnil := fun (W : World) => Lib.run_eql_slice_nil (P := Try.prog) W 70 5 (some x) len cap 0 0 Try.underlying70
  go_enter Try.func12, Try.ntmps12
  go_wp2_with (first | (at_make; (refine wpList_make_full _ rfl _ _ 70 rfl w.heap.size 5 i0 (.int .u8 0) 1 Try.underlying70 hi hz0 hz1 _ _ _ _ len rfl rfl rfl rfl (by rw [hz2]; omega) (by unfold maxLen; omega) (Nat.le_refl _) ?_); intro w1 hown hgrow))
  rw [made_cells _ _ rfl, ← partRow_zero .u8 zs len] at hown
  have hbel : Below w.heap.size w w1 := (Below.refl _ _).grown hgrow (Nat.le_refl _) (by simp)
  clear hgrow hnil hi hz0 hz1 hz2
  go_loopw [4] (fun i wr => ∃ k : Nat, k ≤ len ∧ i = .int .i64 k ∧ wr.ownsRow w.heap.size 5 1 (.slice (some ⟨w.heap.size, 0, none⟩) len len) len (partRow .u8 zs len k) ∧ Below w.heap.size w wr) (fun i _ => len - (intOf i).toNat)
  case atStart => exact ⟨0, Nat.zero_le _, rfl, hown, hbel⟩
  case round =>
    obtain ⟨k, hk, rfl, hown, hbel⟩ := hrel
    by_cases hlt : k < len
    · have c1 : wr.cell? (x.add k) = some (.int .u8 (zs.getD k 0)) := by
        rw [hbel.cell (p := x.add k) (by rw [block_of_add]; exact hx (by omega))]
        exact HC.out k (by omega)
      have c2 : wr.cell? ⟨w.heap.size, k, none⟩ = some (.int .u8 0) := by
        rw [hown.cellAt k (by omega)]
        exact partRow_at .u8 zs len k hlt (by omega)
      have f2 := hown.frozenAt k
      have HO := Lib.hid hown
      clear hown
      go_wp2
      go_roundw
      case rel =>
        have hs := (HO.out.stored k (.int .u8 (zs.getD k 0))).1
        rw [partRow_set .u8 zs len k hlt (by omega)] at hs
        exact ⟨k + 1, by omega, by go_num, hs, hbel.setCell (Nat.le_refl _) _⟩
      case measure => simp [intOf]; omega
    · obtain rfl : k = len := by omega
      rw [partRow_all] at hown
      go_wp2
      go_ret
      exact ⟨rfl, hown, hbel⟩
set_option maxHeartbeats 1000000 in
theorem clu_none (w : World) :
    Calls Try.prog 12 #[.slice none 0 0] w fun e w' => e = .returned (.slice none 0 0) ∧ Below w.heap.size w w' := by
  have hnil := fun (W : World) => Lib.run_eql_slice_nil (P := Try.prog) W 70 5 none 0 0 0 0 Try.underlying70
  go_enter Try.func12, Try.ntmps12
  go_wp2
  go_ret
  exact ⟨rfl, by go_grown⟩
theorem clu_row (a : Option Addr) (len cap : Nat) (zs : List Int) (w : World) (h : IsRow .u8 w a len cap zs) (hb : len ≤ 1048576) :
    Calls Try.prog 12 #[.slice a len cap] w fun e w' => ∃ A, e = .returned (.slice A len len) ∧ RowOf .u8 w' A len (fun i => zs.getD i 0) ∧ Below w.heap.size w w' := by
  rcases h with ⟨rfl, rfl, rfl, rfl⟩ | ⟨x, rfl, hl, _, hz, hc, _⟩
  · exact (clu_none w).mono fun _ _ ⟨he, hb⟩ => ⟨none, he, fun i hi => absurd hi (by omega), hb⟩
  · have hx : 0 < len → x.block < w.heap.size := fun h0 => by
      have := World.block_lt_of_cell? w _ (hc 0 (by omega))
      rwa [block_of_add] at this
    refine (clu_some x len cap zs w (by omega) hb hc hx).mono fun e w' ⟨he, ho, hb⟩ => ⟨_, he, fun i hi => ⟨_, rfl, ?_⟩, hb⟩
    rw [ho.cellAt i (by omega)]
    simp [List.getD, hi, show i < zs.length by omega]
theorem clu_b (a : Option Addr) (len cap : Nat) (zs : List Int) (w : World) (h : IsRow .u8 w a len cap zs) (hb : len ≤ 1048576) :
    Calls Try.prog 12 #[.slice a len cap] w fun e w' => ∃ A, e = .returned (.slice A len len) ∧ RowOf .u8 w' A len (fun i => zs.getD i 0) ∧ (∀ g, A = some ⟨g, 0, none⟩ → g < w'.heap.size) ∧ Below w.heap.size w w' := by
  rcases h with ⟨rfl, rfl, rfl, rfl⟩ | ⟨x, rfl, hl, _, hz, hc, _⟩
  · exact (clu_none w).mono fun _ _ ⟨he, hb⟩ => ⟨none, he, fun i hi => absurd hi (by omega), (fun g e => nomatch e), hb⟩
  · have hx : 0 < len → x.block < w.heap.size := fun h0 => by
      have := World.block_lt_of_cell? w _ (hc 0 (by omega))
      rwa [block_of_add] at this
    refine (clu_some x len cap zs w (by omega) hb hc hx).mono fun e w' ⟨he, ho, hb⟩ => ⟨_, he, fun i hi => ⟨_, rfl, ?_⟩, fun g e => ?_, hb⟩
    · rw [ho.cellAt i (by omega)]
      simp [List.getD, hi, show i < zs.length by omega]
    · injection e with e
      injection e with e
      subst e
      exact (ho.lt _ rfl).2
theorem equal_keys {W : World} {lo hi : Nat} {vs : List Value} (hs : vs.Pairwise (fun y z => blk y < blk z)) (hk : ∀ y ∈ vs, KeyIn W lo hi y) {x y : Value} (hx : x ∈ vs) (hy : y ∈ vs) : (Op.equal 34 x y).run Try.prog W = .ok (decide (blk x = blk y)) W := by
  obtain ⟨T, a, kx, _, _⟩ := hk x hx
  obtain ⟨U, b, ky, _, _⟩ := hk y hy
  have hTU : a = b → T = U := fun e => by
    have e2 : x = y := sorted_inj hs hx hy (by rw [kx.1, ky.1]; exact e)
    rw [kx.1, ky.1] at e2
    injection e2 with e3
  rw [run_equal_keys W Try.underlying34 kx ky hTU]
  have e1 : blk x = a := by rw [kx.1]; rfl
  have e2 : blk y = b := by rw [ky.1]; rfl
  rw [e1, e2]
theorem zk_is (sb c : Nat) (m b : Bool) (ks : List Value) (x : Value) (W : World) (lo hi : Nat) (vs : List Value) (hS : SM W sb c m ks) (hs : vs.Pairwise (fun y z => blk y < blk z)) (hk : ∀ y ∈ vs, KeyIn W lo hi y) (hx : x ∈ vs) (hks : ∀ y ∈ ks, y ∈ vs) (hb : ks.any (fun y => decide (blk x = blk y)) = b) :
    Calls Try.prog 15 #[.pointer (some ⟨sb, 0, none⟩), x] W fun e w' => e = .returned (.bool b) ∧ w' = W := by
  obtain ⟨T, a, kx, _, _⟩ := hk x hx
  rw [← hb]
  exact zk_any sb c m ks x T a _ W hS kx (fun y hy => equal_keys hs hk hx (hks y hy))
set_option maxHeartbeats 1000000 in
theorem zm_sm (sb c : Nat) (m : Bool) (ks : List Value) (W : World) (h : SM W sb c m ks) : Calls Try.prog 10 #[.pointer (some ⟨sb, 0, none⟩)] W fun e w' => e = .returned (.bool m) ∧ W = w' := by
  have c0 := h.1
  have z : sb < W.heap.size := by have := World.block_lt_of_cell? _ _ c0; simpa using this
  clear h
  go_enter Try.func10, Try.ntmps10
  go_wp2_with fail
  go_ret
  exact ⟨rfl, rfl⟩
end Go.Proofs.Ytgeaokgcmhkoaaa
