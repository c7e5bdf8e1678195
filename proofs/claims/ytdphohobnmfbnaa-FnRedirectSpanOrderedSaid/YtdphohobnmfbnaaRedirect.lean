/- Contracts: where a redirect starts and ends; the laws' own positions. Conditions: the cells that are read; line and column that fit. -/
import Derived.Test.YtdphohobnmfbnaaNodePos
namespace Go.Proofs.Ytdphohobnmfbnaa
open Go.RowKit
set_option linter.unusedVariables false
set_option maxHeartbeats 400000 in
theorem redirPos_litPos (b c : Nat) (o lc : Int) (W : World) (h : W.cell? ⟨b, 3, none⟩ = some (.pointer (some ⟨c, 0, none⟩))) (hb : b < W.heap.size) (hX : PosIs Try.prog 59 c o lc W) : PosIs Try.prog 49 b o lc W := by
  intro w hw
  have h1 : w.cell? ⟨b, 3, none⟩ = some (.pointer (some ⟨c, 0, none⟩)) := by rw [hw.cell (p := ⟨b, 3, none⟩) hb]; exact h
  have hb1 : b < w.heap.size := Nat.lt_of_lt_of_le hb hw.size
  have HX := Lib.hid hX
  have HW := Lib.hid hw
  clear h hb hX hw
  go_enter Try.func49, Try.ntmps49
  go_wp2_with fail
  refine (HX.out _ (below_next HW.out (by go_grown))).mono ?_
  rintro e w1 ⟨rfl, hb1⟩
  obtain ⟨k0, k1, f0, f1, hB⟩ := slot_after hb1
  clear hb1
  go_wp2_with fail
  exact bodyPost_ret (v := .agg #[.int .u32 o, .int .u32 lc]) (by simp [results, Try.results49, go_sem, k0, k1]) rfl ⟨rfl, by go_grown⟩
set_option maxHeartbeats 400000 in
theorem redirEnd_wordEnd (b c : Nat) (o lc : Int) (W : World) (hx : W.cell? ⟨b, 5, none⟩ = some (.pointer none)) (h : W.cell? ⟨b, 4, none⟩ = some (.pointer (some ⟨c, 0, none⟩))) (hb : b < W.heap.size) (hX : PosIs Try.prog 67 c o lc W) : PosIs Try.prog 50 b o lc W := by
  intro w hw
  have h1 : w.cell? ⟨b, 4, none⟩ = some (.pointer (some ⟨c, 0, none⟩)) := by rw [hw.cell (p := ⟨b, 4, none⟩) hb]; exact h
  have h2 : w.cell? ⟨b, 5, none⟩ = some (.pointer none) := by rw [hw.cell (p := ⟨b, 5, none⟩) hb]; exact hx
  clear hx
  have hb1 : b < w.heap.size := Nat.lt_of_lt_of_le hb hw.size
  have HX := Lib.hid hX
  have HW := Lib.hid hw
  clear h hb hX hw
  go_enter Try.func50, Try.ntmps50
  go_wp2_with fail
  refine (HX.out _ (below_next HW.out (by go_grown))).mono ?_
  rintro e w1 ⟨rfl, hb1⟩
  obtain ⟨k0, k1, f0, f1, hB⟩ := slot_after hb1
  clear hb1
  go_wp2_with fail
  exact bodyPost_ret (v := .agg #[.int .u32 o, .int .u32 lc]) (by simp [results, Try.results50, go_sem, k0, k1]) rfl ⟨rfl, by go_grown⟩
set_option maxHeartbeats 400000 in
theorem redirPos_op (c : Nat) (o lc : Int) (W : World) (h0 : W.cell? ⟨c, 0, none⟩ = some (.int .u32 o)) (h1 : W.cell? ⟨c, 1, none⟩ = some (.int .u32 lc)) (h3 : W.cell? ⟨c, 3, none⟩ = some (.pointer none)) (hc : c < W.heap.size) : PosIs Try.prog 49 c o lc W := by
  intro w hw
  have g0 := bget hw hc h0
  have g1 := bget hw hc h1
  have g3 := bget hw hc h3
  have hb1 : c < w.heap.size := Nat.lt_of_lt_of_le hc hw.size
  clear h0 h1 h3 hc hw
  go_enter Try.func49, Try.ntmps49
  go_wp2
  go_returns
  exact ⟨rfl, by go_grown⟩
set_option maxHeartbeats 400000 in
theorem redirEnd_hdoc (b c : Nat) (o lc : Int) (W : World) (h : W.cell? ⟨b, 5, none⟩ = some (.pointer (some ⟨c, 0, none⟩))) (hb : b < W.heap.size) (hX : PosIs Try.prog 67 c o lc W) : PosIs Try.prog 50 b o lc W := by
  intro w hw
  have h1 := bget hw hb h
  have hb1 : b < w.heap.size := Nat.lt_of_lt_of_le hb hw.size
  have HX := Lib.hid hX
  have HW := Lib.hid hw
  clear h hb hX hw
  go_enter Try.func50, Try.ntmps50
  go_wp2_with fail
  refine (HX.out _ (below_next HW.out (by go_grown))).mono ?_
  rintro e w1 ⟨rfl, hb1⟩
  obtain ⟨k0, k1, f0, f1, hB⟩ := slot_after hb1
  clear hb1
  go_wp2_with fail
  exact bodyPost_ret (v := .agg #[.int .u32 o, .int .u32 lc]) (by simp [results, Try.results50, go_sem, k0, k1]) rfl ⟨rfl, by go_grown⟩
set_option maxHeartbeats 400000 in
theorem mk147_at (o l c : Int) (w : World) (hl : 0 ≤ l ∧ l ≤ 262143) (hc : 0 ≤ c ∧ c ≤ 16383) :
    Calls Try.prog 48 #[.int .u32 o, .int .u32 l, .int .u32 c] w fun e w' => e = .returned (.agg #[.int .u32 o, .int .u32 (l * 16384 + c)]) ∧ w' = (w.alloc (.cells #[.int .u32 o, .int .u32 (l * 16384 + c)] 25)).alloc (.cells #[.int .u32 o, .int .u32 (l * 16384 + c)] 25) := by
  obtain ⟨hl1, hl2⟩ := hl
  obtain ⟨hc1, hc2⟩ := hc
  have hor := or_col l c hl1 hl2 hc1 hc2
  go_enter Try.func48, Try.ntmps48
  go_wp2
  go_returns
  exact ⟨rfl, rfl⟩
end Go.Proofs.Ytdphohobnmfbnaa
