/- Where arithmetic and test nodes end or start, as in the text on which this one rests. Conditions: the cells that the method reads. -/
import Derived.Test.YtimfajlnlfaffaaNodePos
namespace Go.Proofs.Ytimfajlnlfaffaa
open Go.RowKit
set_option linter.unusedVariables false
set_option maxHeartbeats 400000 in
theorem binArEnd_TWord (b c : Nat) (o lc : Int) (W : World) (h : W.cell? ⟨b, 4, none⟩ = some (.iface 28 (.pointer (some ⟨c, 0, none⟩)))) (hb : b < W.heap.size) (hX : PosIs Try.prog 38 c o lc W) : PosIs Try.prog 14 b o lc W := by
  intro w hw
  have h1 : w.cell? ⟨b, 4, none⟩ = some (.iface 28 (.pointer (some ⟨c, 0, none⟩))) := by rw [hw.cell (p := ⟨b, 4, none⟩) hb]; exact h
  have hb1 : b < w.heap.size := Nat.lt_of_lt_of_le hb hw.size
  have HX := Lib.hid hX
  have HW := Lib.hid hw
  clear h hb hX hw
  go_enter Try.func14, Try.ntmps14
  go_wp2_with fail
  refine (HX.out _ (below_next HW.out (by go_grown))).mono ?_
  rintro e w1 ⟨rfl, hb1⟩
  obtain ⟨k0, k1, f0, f1, hB⟩ := slot_after hb1
  clear hb1
  go_wp2_with fail
  exact bodyPost_ret (v := .agg #[.int .u32 o, .int .u32 lc]) (by simp [results, Try.results14, go_sem, k0, k1]) rfl ⟨rfl, by go_grown⟩
set_option maxHeartbeats 400000 in
theorem binArEnd_TBinAr (b c : Nat) (o lc : Int) (W : World) (h : W.cell? ⟨b, 4, none⟩ = some (.iface 26 (.pointer (some ⟨c, 0, none⟩)))) (hb : b < W.heap.size) (hX : PosIs Try.prog 14 c o lc W) : PosIs Try.prog 14 b o lc W := by
  intro w hw
  have h1 : w.cell? ⟨b, 4, none⟩ = some (.iface 26 (.pointer (some ⟨c, 0, none⟩))) := by rw [hw.cell (p := ⟨b, 4, none⟩) hb]; exact h
  have hb1 : b < w.heap.size := Nat.lt_of_lt_of_le hb hw.size
  have HX := Lib.hid hX
  have HW := Lib.hid hw
  clear h hb hX hw
  go_enter Try.func14, Try.ntmps14
  go_wp2_with fail
  refine (HX.out _ (below_next HW.out (by go_grown))).mono ?_
  rintro e w1 ⟨rfl, hb1⟩
  obtain ⟨k0, k1, f0, f1, hB⟩ := slot_after hb1
  clear hb1
  go_wp2_with fail
  exact bodyPost_ret (v := .agg #[.int .u32 o, .int .u32 lc]) (by simp [results, Try.results14, go_sem, k0, k1]) rfl ⟨rfl, by go_grown⟩
set_option maxHeartbeats 400000 in
theorem unArEnd_TWord (b c : Nat) (o lc : Int) (W : World) (hx : W.cell? ⟨b, 3, none⟩ = some (.bool false)) (h : W.cell? ⟨b, 4, none⟩ = some (.iface 28 (.pointer (some ⟨c, 0, none⟩)))) (hb : b < W.heap.size) (hX : PosIs Try.prog 38 c o lc W) : PosIs Try.prog 106 b o lc W := by
  intro w hw
  have h1 : w.cell? ⟨b, 4, none⟩ = some (.iface 28 (.pointer (some ⟨c, 0, none⟩))) := by rw [hw.cell (p := ⟨b, 4, none⟩) hb]; exact h
  have h2 : w.cell? ⟨b, 3, none⟩ = some (.bool false) := by rw [hw.cell (p := ⟨b, 3, none⟩) hb]; exact hx
  clear hx
  have hb1 : b < w.heap.size := Nat.lt_of_lt_of_le hb hw.size
  have HX := Lib.hid hX
  have HW := Lib.hid hw
  clear h hb hX hw
  go_enter Try.func106, Try.ntmps106
  go_wp2_with fail
  refine (HX.out _ (below_next HW.out (by go_grown))).mono ?_
  rintro e w1 ⟨rfl, hb1⟩
  obtain ⟨k0, k1, f0, f1, hB⟩ := slot_after hb1
  clear hb1
  go_wp2_with fail
  exact bodyPost_ret (v := .agg #[.int .u32 o, .int .u32 lc]) (by simp [results, Try.results106, go_sem, k0, k1]) rfl ⟨rfl, by go_grown⟩
set_option maxHeartbeats 400000 in
theorem binArEnd_TUnAr (b c : Nat) (o lc : Int) (W : World) (h : W.cell? ⟨b, 4, none⟩ = some (.iface 40 (.pointer (some ⟨c, 0, none⟩)))) (hb : b < W.heap.size) (hX : PosIs Try.prog 106 c o lc W) : PosIs Try.prog 14 b o lc W := by
  intro w hw
  have h1 : w.cell? ⟨b, 4, none⟩ = some (.iface 40 (.pointer (some ⟨c, 0, none⟩))) := by rw [hw.cell (p := ⟨b, 4, none⟩) hb]; exact h
  have hb1 : b < w.heap.size := Nat.lt_of_lt_of_le hb hw.size
  have HX := Lib.hid hX
  have HW := Lib.hid hw
  clear h hb hX hw
  go_enter Try.func14, Try.ntmps14
  go_wp2_with fail
  refine (HX.out _ (below_next HW.out (by go_grown))).mono ?_
  rintro e w1 ⟨rfl, hb1⟩
  obtain ⟨k0, k1, f0, f1, hB⟩ := slot_after hb1
  clear hb1
  go_wp2_with fail
  exact bodyPost_ret (v := .agg #[.int .u32 o, .int .u32 lc]) (by simp [results, Try.results14, go_sem, k0, k1]) rfl ⟨rfl, by go_grown⟩
theorem unTestPos_is (c : Nat) (o lc : Int) (W : World) (h0 : W.cell? ⟨c, 0, none⟩ = some (.int .u32 o)) (h1 : W.cell? ⟨c, 1, none⟩ = some (.int .u32 lc)) (hc : c < W.heap.size) : PosIs Try.prog 116 c o lc W :=
  fun w hw => unTestPos_any c o lc w (bget hw hc h0) (bget hw hc h1) (Nat.lt_of_lt_of_le hc hw.size)
theorem parenTestPos_is (c : Nat) (o lc : Int) (W : World) (h0 : W.cell? ⟨c, 0, none⟩ = some (.int .u32 o)) (h1 : W.cell? ⟨c, 1, none⟩ = some (.int .u32 lc)) (hc : c < W.heap.size) : PosIs Try.prog 119 c o lc W :=
  fun w hw => parenTestPos_any c o lc w (bget hw hc h0) (bget hw hc h1) (Nat.lt_of_lt_of_le hc hw.size)
set_option maxHeartbeats 400000 in
theorem binTestPos_TWord (b c : Nat) (o lc : Int) (W : World) (h : W.cell? ⟨b, 3, none⟩ = some (.iface 28 (.pointer (some ⟨c, 0, none⟩)))) (hb : b < W.heap.size) (hX : PosIs Try.prog 37 c o lc W) : PosIs Try.prog 26 b o lc W := by
  intro w hw
  have h1 : w.cell? ⟨b, 3, none⟩ = some (.iface 28 (.pointer (some ⟨c, 0, none⟩))) := by rw [hw.cell (p := ⟨b, 3, none⟩) hb]; exact h
  have hb1 : b < w.heap.size := Nat.lt_of_lt_of_le hb hw.size
  have HX := Lib.hid hX
  have HW := Lib.hid hw
  clear h hb hX hw
  go_enter Try.func26, Try.ntmps26
  go_wp2_with fail
  refine (HX.out _ (below_next HW.out (by go_grown))).mono ?_
  rintro e w1 ⟨rfl, hb1⟩
  obtain ⟨k0, k1, f0, f1, hB⟩ := slot_after hb1
  clear hb1
  go_wp2_with fail
  exact bodyPost_ret (v := .agg #[.int .u32 o, .int .u32 lc]) (by simp [results, Try.results26, go_sem, k0, k1]) rfl ⟨rfl, by go_grown⟩
set_option maxHeartbeats 400000 in
theorem binTestPos_TUnTest (b c : Nat) (o lc : Int) (W : World) (h : W.cell? ⟨b, 3, none⟩ = some (.iface 55 (.pointer (some ⟨c, 0, none⟩)))) (hb : b < W.heap.size) (hX : PosIs Try.prog 116 c o lc W) : PosIs Try.prog 26 b o lc W := by
  intro w hw
  have h1 : w.cell? ⟨b, 3, none⟩ = some (.iface 55 (.pointer (some ⟨c, 0, none⟩))) := by rw [hw.cell (p := ⟨b, 3, none⟩) hb]; exact h
  have hb1 : b < w.heap.size := Nat.lt_of_lt_of_le hb hw.size
  have HX := Lib.hid hX
  have HW := Lib.hid hw
  clear h hb hX hw
  go_enter Try.func26, Try.ntmps26
  go_wp2_with fail
  refine (HX.out _ (below_next HW.out (by go_grown))).mono ?_
  rintro e w1 ⟨rfl, hb1⟩
  obtain ⟨k0, k1, f0, f1, hB⟩ := slot_after hb1
  clear hb1
  go_wp2_with fail
  exact bodyPost_ret (v := .agg #[.int .u32 o, .int .u32 lc]) (by simp [results, Try.results26, go_sem, k0, k1]) rfl ⟨rfl, by go_grown⟩
set_option maxHeartbeats 400000 in
theorem binTestPos_TParenTest (b c : Nat) (o lc : Int) (W : World) (h : W.cell? ⟨b, 3, none⟩ = some (.iface 58 (.pointer (some ⟨c, 0, none⟩)))) (hb : b < W.heap.size) (hX : PosIs Try.prog 119 c o lc W) : PosIs Try.prog 26 b o lc W := by
  intro w hw
  have h1 : w.cell? ⟨b, 3, none⟩ = some (.iface 58 (.pointer (some ⟨c, 0, none⟩))) := by rw [hw.cell (p := ⟨b, 3, none⟩) hb]; exact h
  have hb1 : b < w.heap.size := Nat.lt_of_lt_of_le hb hw.size
  have HX := Lib.hid hX
  have HW := Lib.hid hw
  clear h hb hX hw
  go_enter Try.func26, Try.ntmps26
  go_wp2_with fail
  refine (HX.out _ (below_next HW.out (by go_grown))).mono ?_
  rintro e w1 ⟨rfl, hb1⟩
  obtain ⟨k0, k1, f0, f1, hB⟩ := slot_after hb1
  clear hb1
  go_wp2_with fail
  exact bodyPost_ret (v := .agg #[.int .u32 o, .int .u32 lc]) (by simp [results, Try.results26, go_sem, k0, k1]) rfl ⟨rfl, by go_grown⟩
set_option maxHeartbeats 400000 in
theorem binTestPos_TBinTest (b c : Nat) (o lc : Int) (W : World) (h : W.cell? ⟨b, 3, none⟩ = some (.iface 52 (.pointer (some ⟨c, 0, none⟩)))) (hb : b < W.heap.size) (hX : PosIs Try.prog 26 c o lc W) : PosIs Try.prog 26 b o lc W := by
  intro w hw
  have h1 : w.cell? ⟨b, 3, none⟩ = some (.iface 52 (.pointer (some ⟨c, 0, none⟩))) := by rw [hw.cell (p := ⟨b, 3, none⟩) hb]; exact h
  have hb1 : b < w.heap.size := Nat.lt_of_lt_of_le hb hw.size
  have HX := Lib.hid hX
  have HW := Lib.hid hw
  clear h hb hX hw
  go_enter Try.func26, Try.ntmps26
  go_wp2_with fail
  refine (HX.out _ (below_next HW.out (by go_grown))).mono ?_
  rintro e w1 ⟨rfl, hb1⟩
  obtain ⟨k0, k1, f0, f1, hB⟩ := slot_after hb1
  clear hb1
  go_wp2_with fail
  exact bodyPost_ret (v := .agg #[.int .u32 o, .int .u32 lc]) (by simp [results, Try.results26, go_sem, k0, k1]) rfl ⟨rfl, by go_grown⟩
end Go.Proofs.Ytimfajlnlfaffaa
