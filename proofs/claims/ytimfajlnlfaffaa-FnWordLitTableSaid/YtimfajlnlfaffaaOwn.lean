/- Rows of the call's own: copies of slices of integers. Conditions: the source's cells. -/
import Derived.Test.YtimfajlnlfaffaaChecked
import Derived.Test.YtimfajlnlfaffaaKit
import Derived.Handy
import Derived.Outline
import Derived.OwnWalk
import Derived.WalkSpells
import Derived.LoopTactic
import Derived.Laws.OwnMore
namespace Go.Proofs.Ytimfajlnlfaffaa
open Go.RowKit
set_option linter.unusedVariables false

theorem block_of_add (a : Addr) (n : Nat) : (a.add n).block = a.block := by unfold Addr.add; split <;> rfl
/-- the copy after k rounds -/
def partRow (K : IntKind) (zs : List Int) (n k : Nat) : List Value := (zs.take k).map (Value.int K) ++ List.replicate (n - k) (.int K 0)
theorem partRow_zero (K : IntKind) (zs : List Int) (n : Nat) : partRow K zs n 0 = List.replicate n (.int K 0) := by simp [partRow]
theorem partRow_all (K : IntKind) (zs : List Int) (n : Nat) : partRow K zs n n = (zs.take n).map (Value.int K) := by simp [partRow]
theorem partRow_set (K : IntKind) (zs : List Int) (n k : Nat) (hk : k < n) (hz : k < zs.length) : (partRow K zs n k).set k (.int K (zs.getD k 0)) = partRow K zs n (k + 1) := by
  unfold partRow
  have hl : ((zs.take k).map (Value.int K)).length = k := by simp; omega
  rw [List.set_append_right _ _ (by omega), hl, Nat.sub_self]
  have e : List.replicate (n - k) (Value.int K 0) = .int K 0 :: List.replicate (n - (k + 1)) (.int K 0) := by
    rw [show n - k = (n - (k + 1)) + 1 by omega, List.replicate_succ]
  have hg : zs.getD k 0 = zs[k] := by simp [List.getD, hz]
  rw [e, List.set_cons_zero, List.take_succ_eq_append_getElem hz, hg, List.map_append]
  simp only [List.map_cons, List.map_nil, List.append_assoc, List.cons_append, List.nil_append]
theorem partRow_at (K : IntKind) (zs : List Int) (n k : Nat) (hk : k < n) (hz : k ≤ zs.length) : (partRow K zs n k)[k]? = some (.int K 0) := by
  unfold partRow
  have hl : ((zs.take k).map (Value.int K)).length = k := by simp; omega
  rw [List.getElem?_append_right (by omega), hl, Nat.sub_self, show n - k = (n - (k + 1)) + 1 by omega, List.replicate_succ]
  rfl
theorem made_cells (z : Value) (n : Nat) (h : z.cells = #[z]) : (madeCells z.cells (n * 1)).toList = List.replicate n z := by
  rw [h, Nat.mul_one, toList_madeCells_one]

/-- a slice that reads as f: nil let in -/
def RowOf (K : IntKind) (W : World) (A : Option Addr) (n : Nat) (f : Nat → Int) : Prop := ∀ i, i < n → ∃ g, A = some ⟨g, 0, none⟩ ∧ W.cell? ⟨g, i, none⟩ = some (.int K (f i))
theorem RowOf.below {K : IntKind} {W w : World} {A : Option Addr} {n : Nat} {f : Nat → Int} (h : RowOf K W A n f) (hb : Below W.heap.size W w) : RowOf K w A n f := fun i hi => by
  obtain ⟨g, e, hc⟩ := h i hi
  exact ⟨g, e, by rw [hb.cell (World.block_lt_of_cell? W _ hc)]; exact hc⟩
theorem info_cl32 : (Try.prog.info? 22).map (fun i => (i.zero, i.size, i.bytes)) = some (some (.int .u32 0), 1, 4) := by kernel_rfl
set_option maxRecDepth 100000 in
set_option maxHeartbeats 1000000 in
theorem cl32_some (x : Addr) (len cap : Nat) (zs : List Int) (w : World) (hl : len ≤ zs.length) (hb : len ≤ 1048576) (hc : ∀ i, i < zs.length → w.cell? (x.add i) = some (.int .u32 (zs.getD i 0))) (hx : 0 < len → x.block < w.heap.size) :
    Calls Try.prog 49 #[.slice (some x) len cap] w fun e w' => e = .returned (.slice (some ⟨w.heap.size, 0, none⟩) len len) ∧ w'.ownsRow w.heap.size 22 1 (.slice (some ⟨w.heap.size, 0, none⟩) len len) len ((zs.take len).map (Value.int .u32)) ∧ Below w.heap.size w w' := by
  obtain ⟨i0, hi, hz0, hz1, hz2⟩ := info_parts info_cl32
  have HC := Lib.hid hc
  clear hc
  have hnil := fun (W : World) => Lib.run_eql_slice_nil (P := Try.prog) W 81 22 (some x) len cap 0 0 Try.underlying81
  go_enter Try.func49, Try.ntmps49
  go_wp2_with (first | (at_make; (refine wpList_make_full _ rfl _ _ 81 rfl w.heap.size 22 i0 (.int .u32 0) 1 Try.underlying81 hi hz0 hz1 _ _ _ _ len rfl rfl rfl rfl (by rw [hz2]; omega) (by unfold maxLen; omega) (Nat.le_refl _) ?_); intro w1 hown hgrow))
  rw [made_cells _ _ rfl, ← partRow_zero .u32 zs len] at hown
  have hbel : Below w.heap.size w w1 := (Below.refl _ _).grown hgrow (Nat.le_refl _) (by simp)
  clear hgrow hnil hi hz0 hz1 hz2
  go_loopw [4] (fun i wr => ∃ k : Nat, k ≤ len ∧ i = .int .i64 k ∧ wr.ownsRow w.heap.size 22 1 (.slice (some ⟨w.heap.size, 0, none⟩) len len) len (partRow .u32 zs len k) ∧ Below w.heap.size w wr) (fun i _ => len - (intOf i).toNat)
  case atStart => exact ⟨0, Nat.zero_le _, rfl, hown, hbel⟩
  case round =>
    obtain ⟨k, hk, rfl, hown, hbel⟩ := hrel
    by_cases hlt : k < len
    · have c1 : wr.cell? (x.add k) = some (.int .u32 (zs.getD k 0)) := by
        rw [hbel.cell (p := x.add k) (by rw [block_of_add]; exact hx (by omega))]
        exact HC.out k (by omega)
      have c2 : wr.cell? ⟨w.heap.size, k, none⟩ = some (.int .u32 0) := by
        rw [hown.cellAt k (by omega)]
        exact partRow_at .u32 zs len k hlt (by omega)
      have f2 := hown.frozenAt k
      have HO := Lib.hid hown
      clear hown
      go_wp2
      go_roundw
      case rel =>
        have hs := (HO.out.stored k (.int .u32 (zs.getD k 0))).1
        rw [partRow_set .u32 zs len k hlt (by omega)] at hs
        exact ⟨k + 1, by omega, by go_num, hs, hbel.setCell (Nat.le_refl _) _⟩
      case measure => simp [intOf]; omega
    · obtain rfl : k = len := by omega
      rw [partRow_all] at hown
      go_wp2
      go_ret
      exact ⟨rfl, hown, hbel⟩
set_option maxHeartbeats 1000000 in
theorem cl32_none (w : World) :
    Calls Try.prog 49 #[.slice none 0 0] w fun e w' => e = .returned (.slice none 0 0) ∧ Below w.heap.size w w' := by
  have hnil := fun (W : World) => Lib.run_eql_slice_nil (P := Try.prog) W 81 22 none 0 0 0 0 Try.underlying81
  go_enter Try.func49, Try.ntmps49
  go_wp2
  go_ret
  exact ⟨rfl, by go_grown⟩
theorem cl32_row (a : Option Addr) (len cap : Nat) (zs : List Int) (w : World) (h : IsRow .u32 w a len cap zs) (hb : len ≤ 1048576) :
    Calls Try.prog 49 #[.slice a len cap] w fun e w' => ∃ A, e = .returned (.slice A len len) ∧ RowOf .u32 w' A len (fun i => zs.getD i 0) ∧ Below w.heap.size w w' := by
  rcases h with ⟨rfl, rfl, rfl, rfl⟩ | ⟨x, rfl, hl, _, hz, hc, _⟩
  · exact (cl32_none w).mono fun _ _ ⟨he, hb⟩ => ⟨none, he, fun i hi => absurd hi (by omega), hb⟩
  · have hx : 0 < len → x.block < w.heap.size := fun h0 => by
      have := World.block_lt_of_cell? w _ (hc 0 (by omega))
      rwa [block_of_add] at this
    refine (cl32_some x len cap zs w (by omega) hb hc hx).mono fun e w' ⟨he, ho, hb⟩ => ⟨_, he, fun i hi => ⟨_, rfl, ?_⟩, hb⟩
    rw [ho.cellAt i (by omega)]
    simp [List.getD, hi, show i < zs.length by omega]
theorem info_ck8 : (Try.prog.info? 5).map (fun i => (i.zero, i.size, i.bytes)) = some (some (.int .u8 0), 1, 1) := by kernel_rfl
set_option maxRecDepth 100000 in
set_option maxHeartbeats 1000000 in
theorem ck8_some (x : Addr) (len cap : Nat) (zs : List Int) (w : World) (hl : len ≤ zs.length) (hb : len ≤ 1048576) (hc : ∀ i, i < zs.length → w.cell? (x.add i) = some (.int .u8 (zs.getD i 0))) (hx : 0 < len → x.block < w.heap.size) :
    Calls Try.prog 35 #[.slice (some x) len cap] w fun e w' => e = .returned (.slice (some ⟨w.heap.size, 0, none⟩) len len) ∧ w'.ownsRow w.heap.size 5 1 (.slice (some ⟨w.heap.size, 0, none⟩) len len) len ((zs.take len).map (Value.int .u8)) ∧ Below w.heap.size w w' := by
  obtain ⟨i0, hi, hz0, hz1, hz2⟩ := info_parts info_ck8
  have HC := Lib.hid hc
  clear hc
  have hnil := fun (W : World) => Lib.run_eql_slice_nil (P := Try.prog) W 70 5 (some x) len cap 0 0 Try.underlying70
  go_enter Try.func35, Try.ntmps35
  go_wp2_with (first | (at_make; (refine wpList_make_full _ rfl _ _ 70 rfl w.heap.size 5 i0 (.int .u8 0) 1 Try.underlying70 hi hz0 hz1 _ _ _ _ len rfl rfl rfl rfl (by rw [hz2]; omega) (by unfold maxLen; omega) (Nat.le_refl _) ?_); intro w1 hown hgrow))
  rw [made_cells _ _ rfl, ← partRow_zero .u8 zs len] at hown
  have hbel : Below w.heap.size w w1 := (Below.refl _ _).grown hgrow (Nat.le_refl _) (by simp)
  clear hgrow hnil hi hz0 hz1 hz2
  go_loopw [4] (fun i wr => ∃ k : Nat, k ≤ len ∧ i = .int .i64 k ∧ wr.ownsRow w.heap.size 5 1 (.slice (some ⟨w.heap.size, 0, none⟩) len len) len (partRow .u8 zs len k) ∧ Below w.heap.size w wr) (fun i _ => len - (intOf i).toNat)
  case atStart => exact ⟨0, Nat.zero_le _, rfl, hown, hbel⟩
  case round =>
    obtain ⟨k, hk, rfl, hown, hbel⟩ := hrel
    by_cases hlt : k < len
    · have c1 : wr.cell? (x.add k) = some (.int .u8 (zs.getD k 0)) := by
        rw [hbel.cell (p := x.add k) (by rw [block_of_add]; exact hx (by omega))]
        exact HC.out k (by omega)
      have c2 : wr.cell? ⟨w.heap.size, k, none⟩ = some (.int .u8 0) := by
        rw [hown.cellAt k (by omega)]
        exact partRow_at .u8 zs len k hlt (by omega)
      have f2 := hown.frozenAt k
      have HO := Lib.hid hown
      clear hown
      go_wp2
      go_roundw
      case rel =>
        have hs := (HO.out.stored k (.int .u8 (zs.getD k 0))).1
        rw [partRow_set .u8 zs len k hlt (by omega)] at hs
        exact ⟨k + 1, by omega, by go_num, hs, hbel.setCell (Nat.le_refl _) _⟩
      case measure => simp [intOf]; omega
    · obtain rfl : k = len := by omega
      rw [partRow_all] at hown
      go_wp2
      go_ret
      exact ⟨rfl, hown, hbel⟩
set_option maxHeartbeats 1000000 in
theorem ck8_none (w : World) :
    Calls Try.prog 35 #[.slice none 0 0] w fun e w' => e = .returned (.slice none 0 0) ∧ Below w.heap.size w w' := by
  have hnil := fun (W : World) => Lib.run_eql_slice_nil (P := Try.prog) W 70 5 none 0 0 0 0 Try.underlying70
  go_enter Try.func35, Try.ntmps35
  go_wp2
  go_ret
  exact ⟨rfl, by go_grown⟩
theorem ck8_row (a : Option Addr) (len cap : Nat) (zs : List Int) (w : World) (h : IsRow .u8 w a len cap zs) (hb : len ≤ 1048576) :
    Calls Try.prog 35 #[.slice a len cap] w fun e w' => ∃ A, e = .returned (.slice A len len) ∧ RowOf .u8 w' A len (fun i => zs.getD i 0) ∧ Below w.heap.size w w' := by
  rcases h with ⟨rfl, rfl, rfl, rfl⟩ | ⟨x, rfl, hl, _, hz, hc, _⟩
  · exact (ck8_none w).mono fun _ _ ⟨he, hb⟩ => ⟨none, he, fun i hi => absurd hi (by omega), hb⟩
  · have hx : 0 < len → x.block < w.heap.size := fun h0 => by
      have := World.block_lt_of_cell? w _ (hc 0 (by omega))
      rwa [block_of_add] at this
    refine (ck8_some x len cap zs w (by omega) hb hc hx).mono fun e w' ⟨he, ho, hb⟩ => ⟨_, he, fun i hi => ⟨_, rfl, ?_⟩, hb⟩
    rw [ho.cellAt i (by omega)]
    simp [List.getD, hi, show i < zs.length by omega]
theorem info8 : (Try.prog.info? 5).map (fun i => (i.zero, i.size, i.bytes)) = some (some (.int .u8 0), 1, 1) := by kernel_rfl
set_option maxRecDepth 100000 in
set_option maxHeartbeats 1000000 in
theorem cl8_any (x : Addr) (len cap : Nat) (zs : List Int) (w : World) (hl : len ≤ zs.length) (hb : len ≤ 1048576) (hc : ∀ i, i < zs.length → w.cell? (x.add i) = some (.int .u8 (zs.getD i 0))) (hx : x.block < w.heap.size) :
    Calls Try.prog 58 #[.slice (some x) len cap] w fun e w' => e = .returned (.slice (some ⟨w.heap.size, 0, none⟩) len len) ∧ w'.ownsRow w.heap.size 5 1 (.slice (some ⟨w.heap.size, 0, none⟩) len len) len ((zs.take len).map (Value.int .u8)) ∧ Below w.heap.size w w' := by
  obtain ⟨i0, hi, hz0, hz1, hz2⟩ := info_parts info8
  have HC := Lib.hid hc
  clear hc
  have hnil := fun (W : World) => Lib.run_eql_slice_nil (P := Try.prog) W 70 5 (some x) len cap 0 0 Try.underlying70
  go_enter Try.func58, Try.ntmps58
  go_wp2_with (first | (at_make; (refine wpList_make_full _ rfl _ _ 70 rfl w.heap.size 5 i0 (.int .u8 0) 1 Try.underlying70 hi hz0 hz1 _ _ _ _ len rfl rfl rfl rfl (by rw [hz2]; omega) (by unfold maxLen; omega) (Nat.le_refl _) ?_); intro w1 hown hgrow))
  rw [made_cells _ _ rfl, ← partRow_zero .u8 zs len] at hown
  have hbel : Below w.heap.size w w1 := (Below.refl _ _).grown hgrow (Nat.le_refl _) (by simp)
  clear hgrow hnil hi hz0 hz1 hz2
  go_loopw [4] (fun i wr => ∃ k : Nat, k ≤ len ∧ i = .int .i64 k ∧ wr.ownsRow w.heap.size 5 1 (.slice (some ⟨w.heap.size, 0, none⟩) len len) len (partRow .u8 zs len k) ∧ Below w.heap.size w wr) (fun i _ => len - (intOf i).toNat)
  case atStart => exact ⟨0, Nat.zero_le _, rfl, hown, hbel⟩
  case round =>
    obtain ⟨k, hk, rfl, hown, hbel⟩ := hrel
    by_cases hlt : k < len
    · have c1 : wr.cell? (x.add k) = some (.int .u8 (zs.getD k 0)) := by
        rw [hbel.cell (p := x.add k) (by rw [block_of_add]; exact hx)]
        exact HC.out k (by omega)
      have c2 : wr.cell? ⟨w.heap.size, k, none⟩ = some (.int .u8 0) := by
        rw [hown.cellAt k (by omega)]
        exact partRow_at .u8 zs len k hlt (by omega)
      have f2 := hown.frozenAt k
      have HO := Lib.hid hown
      clear hown
      go_wp2
      go_roundw
      case rel =>
        have hs := (HO.out.stored k (.int .u8 (zs.getD k 0))).1
        rw [partRow_set .u8 zs len k hlt (by omega)] at hs
        exact ⟨k + 1, by omega, by go_num, hs, hbel.setCell (Nat.le_refl _) _⟩
      case measure => simp [intOf]; omega
    · obtain rfl : k = len := by omega
      rw [partRow_all] at hown
      go_wp2
      go_ret
      exact ⟨rfl, hown, hbel⟩
end Go.Proofs.Ytimfajlnlfaffaa
