/- Where a node starts or ends: 'in this world and in every world that only grew out of it the method f of the node at block c returns (o, lc)'. Conditions: the cells that the method reads. -/
import Derived.Test.YtimfajlnlfaffaaEnds
import Derived.OpenShut
import Derived.Outline
import Derived.Deep.RegionHeld3
namespace Go.Proofs.Ytimfajlnlfaffaa
open Go.RowKit
set_option linter.unusedVariables false

def PosIs (P : Program) (f c : Nat) (o lc : Int) (W : World) : Prop :=
  ∀ w, Below W.heap.size W w → Calls P f #[.pointer (some ⟨c, 0, none⟩)] w fun e w' => e = .returned (.agg #[.int .u32 o, .int .u32 lc]) ∧ Below w.heap.size w w'
theorem PosIs.grow {P : Program} {f c : Nat} {o lc : Int} {W W' : World} (h : PosIs P f c o lc W) (hb : Below W.heap.size W W') : PosIs P f c o lc W' :=
  fun w hw => h w (below_next hb hw)
theorem PosIs.now {P : Program} {f c : Nat} {o lc : Int} {W : World} (h : PosIs P f c o lc W) : Calls P f #[.pointer (some ⟨c, 0, none⟩)] W fun e w' => e = .returned (.agg #[.int .u32 o, .int .u32 lc]) ∧ Below W.heap.size W w' :=
  h W (Below.refl _ _)
/-- the world at hand under a name of its own, with what is known of it -/
theorem wp_gen {P : Program} {c : Code} {Q : Exit → Act → World → Prop} {a : Act} {W : World} (R : World → Prop) (h : R W) (k : ∀ W', R W' → c.wp P Q a W') : c.wp P Q a W := k W h
theorem bget {W w : World} {c i : Nat} {v : Value} (hw : Below W.heap.size W w) (hc : c < W.heap.size) (h : W.cell? ⟨c, i, none⟩ = some v) : w.cell? ⟨c, i, none⟩ = some v := by
  rw [hw.cell (p := ⟨c, i, none⟩) hc]; exact h

theorem bfroz {W w : World} {c i : Nat} {v : Bool} (hw : Below W.heap.size W w) (hc : c < W.heap.size) (h : W.frozen? ⟨c, i, none⟩ = v) : w.frozen? ⟨c, i, none⟩ = v := by
  rw [hw.frozen (p := ⟨c, i, none⟩) hc]; exact h

theorem keep2 {w W9 : World} {b s i j : Nat} {v u : Value} (hQ : Below w.heap.size w W9) (hb : b < w.heap.size) (hs : s < w.heap.size) (h1 : w.cell? ⟨b, i, none⟩ = some v) (h2 : w.cell? ⟨s, j, none⟩ = some u) :
    Below w.heap.size w W9 ∧ W9.cell? ⟨b, i, none⟩ = some v ∧ W9.cell? ⟨s, j, none⟩ = some u := ⟨hQ, bget hQ hb h1, bget hQ hs h2⟩

theorem litPos_is (c : Nat) (o lc : Int) (W : World) (h0 : W.cell? ⟨c, 0, none⟩ = some (.int .u32 o)) (h1 : W.cell? ⟨c, 1, none⟩ = some (.int .u32 lc)) (hc : c < W.heap.size) : PosIs Try.prog 65 c o lc W :=
  fun w hw => litPos_any c o lc w (bget hw hc h0) (bget hw hc h1) (Nat.lt_of_lt_of_le hc hw.size)
theorem litEnd_is (c : Nat) (o lc : Int) (W : World) (h0 : W.cell? ⟨c, 2, none⟩ = some (.int .u32 o)) (h1 : W.cell? ⟨c, 3, none⟩ = some (.int .u32 lc)) (hc : c < W.heap.size) : PosIs Try.prog 68 c o lc W :=
  fun w hw => litEnd_any c o lc w (bget hw hc h0) (bget hw hc h1) (Nat.lt_of_lt_of_le hc hw.size)
theorem parenArPos_is (c : Nat) (o lc : Int) (W : World) (h0 : W.cell? ⟨c, 0, none⟩ = some (.int .u32 o)) (h1 : W.cell? ⟨c, 1, none⟩ = some (.int .u32 lc)) (hc : c < W.heap.size) : PosIs Try.prog 111 c o lc W :=
  fun w hw => parenArPos_any c o lc w (bget hw hc h0) (bget hw hc h1) (Nat.lt_of_lt_of_le hc hw.size)
set_option maxHeartbeats 400000 in
/-- a word whose first part is a literal -/
theorem wordPos_is (b s c n cap : Nat) (o lc : Int) (W : World) (hn : 0 < n) (h : W.cell? ⟨b, 0, none⟩ = some (.slice (some ⟨s, 0, none⟩) n cap)) (hs : W.cell? ⟨s, 0, none⟩ = some (.iface 34 (.pointer (some ⟨c, 0, none⟩)))) (hb : b < W.heap.size) (hsb : s < W.heap.size) (hX : PosIs Try.prog 65 c o lc W) : PosIs Try.prog 37 b o lc W := by
  intro w hw
  have h1 := bget hw hb h
  have h2 := bget hw hsb hs
  have hb1 : b < w.heap.size := Nat.lt_of_lt_of_le hb hw.size
  have hs1 : s < w.heap.size := Nat.lt_of_lt_of_le hsb hw.size
  have HX := Lib.hid hX
  have HW := Lib.hid hw
  clear h hs hb hsb hX hw
  go_enter Try.func37, Try.ntmps37
  go_wp2_with fail
  refine (HX.out _ (below_next HW.out (by go_grown))).mono ?_
  rintro e w1 ⟨rfl, hb1⟩
  obtain ⟨k0, k1, f0, f1, hB⟩ := slot_after hb1
  clear hb1
  go_wp2_with fail
  exact bodyPost_ret (v := .agg #[.int .u32 o, .int .u32 lc]) (by simp [results, Try.results37, go_sem, k0, k1]) rfl ⟨rfl, by go_grown⟩
set_option maxHeartbeats 1000000 in
/-- a word whose last part is a literal -/
theorem wordEnd_is (b s c n cap : Nat) (o lc : Int) (W : World) (hn : 0 < n) (hn2 : n ≤ 4611686018427387904) (h : W.cell? ⟨b, 0, none⟩ = some (.slice (some ⟨s, 0, none⟩) n cap)) (hs : W.cell? ⟨s, n - 1, none⟩ = some (.iface 34 (.pointer (some ⟨c, 0, none⟩)))) (hb : b < W.heap.size) (hsb : s < W.heap.size) (hX : PosIs Try.prog 68 c o lc W) : PosIs Try.prog 38 b o lc W := by
  intro w hw
  have h1 := bget hw hb h
  have h2 := bget hw hsb hs
  have hb1 : b < w.heap.size := Nat.lt_of_lt_of_le hb hw.size
  have hs1 : s < w.heap.size := Nat.lt_of_lt_of_le hsb hw.size
  have HX := Lib.hid hX
  have HW := Lib.hid hw
  clear h hs hb hsb hX hw
  go_enter Try.func38, Try.ntmps38
  go_wp2_with fail
  refine wp_gen (fun U => Below w.heap.size w U ∧ U.cell? ⟨w.heap.size, 0, none⟩ = some (.int .u32 0) ∧ U.cell? ⟨w.heap.size, 1, none⟩ = some (.int .u32 0) ∧ U.frozen? ⟨w.heap.size, 0, none⟩ = false ∧ U.frozen? ⟨w.heap.size, 1, none⟩ = false ∧ w.heap.size < U.heap.size) ⟨by go_grown, by simp [go_sem], by simp [go_sem], by simp [go_sem], by simp [go_sem], by simp⟩ ?_
  rintro U ⟨hU, k0, k1, f0, f1, hz⟩
  have H1 := Lib.hid h1
  have H2 := Lib.hid h2
  have g1 := bget hU hb1 h1
  have g2 := bget hU hs1 h2
  clear h1 h2
  have v1 := IntWalk.i64_in ((n : Int) - 1) (by omega)
  have v2 : (0 : Int) ≤ (n : Int) - 1 := by omega
  have v3 : ((n : Int) - 1).toNat = n - 1 := by omega
  have v4 : (n : Int) - 1 < (n : Int) := by omega
  have v5 : n - 1 < n := by omega
  have v6 : 1 ≤ n := hn
  have v7 : (1 : Int) ≤ (n : Int) := by omega
  go_region_held3 (fun U9 => Below w.heap.size w U9 ∧ U9.cell? ⟨b, 0, none⟩ = some (.slice (some ⟨s, 0, none⟩) n cap) ∧ U9.cell? ⟨s, n - 1, none⟩ = some (.iface 34 (.pointer (some ⟨c, 0, none⟩))))
    (first | exact keep2 (by go_grown) hb1 hs1 H1.out H2.out)
    (first | (go_at_call 68; refine (HX.out _ (below_next HW.out (And.left (by assumption)))).mono ?_; rintro e w1 ⟨rfl, hb4⟩; have hB1 := below_next (And.left (by assumption)) hb4; have k0 := bget hb4 hz k0; have k1 := bget hb4 hz k1; have f0 := bfroz hb4 hz f0; have f1 := bfroz hb4 hz f1; clear hb4))
  go_wp2_with fail
  exact bodyPost_ret (v := .agg #[.int .u32 o, .int .u32 lc]) (by simp [results, Try.results38, go_sem, k0, k1]) rfl ⟨rfl, by go_grown⟩
set_option maxHeartbeats 400000 in
theorem unArPos_pre (c : Nat) (o lc : Int) (W : World) (h0 : W.cell? ⟨c, 0, none⟩ = some (.int .u32 o)) (h1 : W.cell? ⟨c, 1, none⟩ = some (.int .u32 lc)) (h3 : W.cell? ⟨c, 3, none⟩ = some (.bool false)) (hc : c < W.heap.size) : PosIs Try.prog 107 c o lc W := by
  intro w hw
  have g0 := bget hw hc h0
  have g1 := bget hw hc h1
  have g3 := bget hw hc h3
  have hb1 : c < w.heap.size := Nat.lt_of_lt_of_le hc hw.size
  clear h0 h1 h3 hc hw
  go_enter Try.func107, Try.ntmps107
  go_wp2
  go_returns
  exact ⟨rfl, by go_grown⟩
set_option maxHeartbeats 400000 in
theorem litWord_at (o1 l1 o2 l2 : Int) (w : World) :
    Calls Try.prog 13 #[.agg #[.int .u32 o1, .int .u32 l1], .agg #[.int .u32 o2, .int .u32 l2]] w fun e w' => e = .returned (.pointer (some ⟨w.heap.size + 1 + 1 + 1 + 1, 0, none⟩)) ∧
      w' = ((((w.alloc (.cells #[.int .u32 o1, .int .u32 l1] 24)).alloc (.cells #[.int .u32 o2, .int .u32 l2] 24)).alloc (.cells #[.int .u32 o1, .int .u32 l1, .int .u32 o2, .int .u32 l2, .string ⟨#[]⟩] 36)).alloc (.cells #[.iface 34 (.pointer (some ⟨w.heap.size + 1 + 1, 0, none⟩))] 120)).alloc (.cells #[.slice (some ⟨w.heap.size + 1 + 1 + 1, 0, none⟩) 1 1] 39) := by
  go_enter Try.func13, Try.ntmps13
  go_wp2
  go_ret
  exact ⟨rfl, rfl⟩
set_option maxHeartbeats 400000 in
theorem unArPos_TWord (b c : Nat) (o lc : Int) (W : World) (hx : W.cell? ⟨b, 3, none⟩ = some (.bool true)) (h : W.cell? ⟨b, 4, none⟩ = some (.iface 28 (.pointer (some ⟨c, 0, none⟩)))) (hb : b < W.heap.size) (hX : PosIs Try.prog 37 c o lc W) : PosIs Try.prog 107 b o lc W := by
  intro w hw
  have h1 : w.cell? ⟨b, 4, none⟩ = some (.iface 28 (.pointer (some ⟨c, 0, none⟩))) := by rw [hw.cell (p := ⟨b, 4, none⟩) hb]; exact h
  have h2 : w.cell? ⟨b, 3, none⟩ = some (.bool true) := by rw [hw.cell (p := ⟨b, 3, none⟩) hb]; exact hx
  clear hx
  have hb1 : b < w.heap.size := Nat.lt_of_lt_of_le hb hw.size
  have HX := Lib.hid hX
  have HW := Lib.hid hw
  clear h hb hX hw
  go_enter Try.func107, Try.ntmps107
  go_wp2_with fail
  refine (HX.out _ (below_next HW.out (by go_grown))).mono ?_
  rintro e w1 ⟨rfl, hb1⟩
  obtain ⟨k0, k1, f0, f1, hB⟩ := slot_after hb1
  clear hb1
  go_wp2_with fail
  exact bodyPost_ret (v := .agg #[.int .u32 o, .int .u32 lc]) (by simp [results, Try.results107, go_sem, k0, k1]) rfl ⟨rfl, by go_grown⟩
set_option maxHeartbeats 400000 in
theorem unArPos_TParenAr (b c : Nat) (o lc : Int) (W : World) (hx : W.cell? ⟨b, 3, none⟩ = some (.bool true)) (h : W.cell? ⟨b, 4, none⟩ = some (.iface 46 (.pointer (some ⟨c, 0, none⟩)))) (hb : b < W.heap.size) (hX : PosIs Try.prog 111 c o lc W) : PosIs Try.prog 107 b o lc W := by
  intro w hw
  have h1 : w.cell? ⟨b, 4, none⟩ = some (.iface 46 (.pointer (some ⟨c, 0, none⟩))) := by rw [hw.cell (p := ⟨b, 4, none⟩) hb]; exact h
  have h2 : w.cell? ⟨b, 3, none⟩ = some (.bool true) := by rw [hw.cell (p := ⟨b, 3, none⟩) hb]; exact hx
  clear hx
  have hb1 : b < w.heap.size := Nat.lt_of_lt_of_le hb hw.size
  have HX := Lib.hid hX
  have HW := Lib.hid hw
  clear h hb hX hw
  go_enter Try.func107, Try.ntmps107
  go_wp2_with fail
  refine (HX.out _ (below_next HW.out (by go_grown))).mono ?_
  rintro e w1 ⟨rfl, hb1⟩
  obtain ⟨k0, k1, f0, f1, hB⟩ := slot_after hb1
  clear hb1
  go_wp2_with fail
  exact bodyPost_ret (v := .agg #[.int .u32 o, .int .u32 lc]) (by simp [results, Try.results107, go_sem, k0, k1]) rfl ⟨rfl, by go_grown⟩
set_option maxHeartbeats 400000 in
theorem unArPos_TBinAr (b c : Nat) (o lc : Int) (W : World) (hx : W.cell? ⟨b, 3, none⟩ = some (.bool true)) (h : W.cell? ⟨b, 4, none⟩ = some (.iface 26 (.pointer (some ⟨c, 0, none⟩)))) (hb : b < W.heap.size) (hX : PosIs Try.prog 15 c o lc W) : PosIs Try.prog 107 b o lc W := by
  intro w hw
  have h1 : w.cell? ⟨b, 4, none⟩ = some (.iface 26 (.pointer (some ⟨c, 0, none⟩))) := by rw [hw.cell (p := ⟨b, 4, none⟩) hb]; exact h
  have h2 : w.cell? ⟨b, 3, none⟩ = some (.bool true) := by rw [hw.cell (p := ⟨b, 3, none⟩) hb]; exact hx
  clear hx
  have hb1 : b < w.heap.size := Nat.lt_of_lt_of_le hb hw.size
  have HX := Lib.hid hX
  have HW := Lib.hid hw
  clear h hb hX hw
  go_enter Try.func107, Try.ntmps107
  go_wp2_with fail
  refine (HX.out _ (below_next HW.out (by go_grown))).mono ?_
  rintro e w1 ⟨rfl, hb1⟩
  obtain ⟨k0, k1, f0, f1, hB⟩ := slot_after hb1
  clear hb1
  go_wp2_with fail
  exact bodyPost_ret (v := .agg #[.int .u32 o, .int .u32 lc]) (by simp [results, Try.results107, go_sem, k0, k1]) rfl ⟨rfl, by go_grown⟩
set_option maxHeartbeats 400000 in
theorem unArPos_TUnAr (b c : Nat) (o lc : Int) (W : World) (hx : W.cell? ⟨b, 3, none⟩ = some (.bool true)) (h : W.cell? ⟨b, 4, none⟩ = some (.iface 40 (.pointer (some ⟨c, 0, none⟩)))) (hb : b < W.heap.size) (hX : PosIs Try.prog 107 c o lc W) : PosIs Try.prog 107 b o lc W := by
  intro w hw
  have h1 : w.cell? ⟨b, 4, none⟩ = some (.iface 40 (.pointer (some ⟨c, 0, none⟩))) := by rw [hw.cell (p := ⟨b, 4, none⟩) hb]; exact h
  have h2 : w.cell? ⟨b, 3, none⟩ = some (.bool true) := by rw [hw.cell (p := ⟨b, 3, none⟩) hb]; exact hx
  clear hx
  have hb1 : b < w.heap.size := Nat.lt_of_lt_of_le hb hw.size
  have HX := Lib.hid hX
  have HW := Lib.hid hw
  clear h hb hX hw
  go_enter Try.func107, Try.ntmps107
  go_wp2_with fail
  refine (HX.out _ (below_next HW.out (by go_grown))).mono ?_
  rintro e w1 ⟨rfl, hb1⟩
  obtain ⟨k0, k1, f0, f1, hB⟩ := slot_after hb1
  clear hb1
  go_wp2_with fail
  exact bodyPost_ret (v := .agg #[.int .u32 o, .int .u32 lc]) (by simp [results, Try.results107, go_sem, k0, k1]) rfl ⟨rfl, by go_grown⟩
set_option maxHeartbeats 400000 in
theorem binArPos_TWord (b c : Nat) (o lc : Int) (W : World) (h : W.cell? ⟨b, 3, none⟩ = some (.iface 28 (.pointer (some ⟨c, 0, none⟩)))) (hb : b < W.heap.size) (hX : PosIs Try.prog 37 c o lc W) : PosIs Try.prog 15 b o lc W := by
  intro w hw
  have h1 : w.cell? ⟨b, 3, none⟩ = some (.iface 28 (.pointer (some ⟨c, 0, none⟩))) := by rw [hw.cell (p := ⟨b, 3, none⟩) hb]; exact h
  have hb1 : b < w.heap.size := Nat.lt_of_lt_of_le hb hw.size
  have HX := Lib.hid hX
  have HW := Lib.hid hw
  clear h hb hX hw
  go_enter Try.func15, Try.ntmps15
  go_wp2_with fail
  refine (HX.out _ (below_next HW.out (by go_grown))).mono ?_
  rintro e w1 ⟨rfl, hb1⟩
  obtain ⟨k0, k1, f0, f1, hB⟩ := slot_after hb1
  clear hb1
  go_wp2_with fail
  exact bodyPost_ret (v := .agg #[.int .u32 o, .int .u32 lc]) (by simp [results, Try.results15, go_sem, k0, k1]) rfl ⟨rfl, by go_grown⟩
set_option maxHeartbeats 400000 in
theorem binArPos_TParenAr (b c : Nat) (o lc : Int) (W : World) (h : W.cell? ⟨b, 3, none⟩ = some (.iface 46 (.pointer (some ⟨c, 0, none⟩)))) (hb : b < W.heap.size) (hX : PosIs Try.prog 111 c o lc W) : PosIs Try.prog 15 b o lc W := by
  intro w hw
  have h1 : w.cell? ⟨b, 3, none⟩ = some (.iface 46 (.pointer (some ⟨c, 0, none⟩))) := by rw [hw.cell (p := ⟨b, 3, none⟩) hb]; exact h
  have hb1 : b < w.heap.size := Nat.lt_of_lt_of_le hb hw.size
  have HX := Lib.hid hX
  have HW := Lib.hid hw
  clear h hb hX hw
  go_enter Try.func15, Try.ntmps15
  go_wp2_with fail
  refine (HX.out _ (below_next HW.out (by go_grown))).mono ?_
  rintro e w1 ⟨rfl, hb1⟩
  obtain ⟨k0, k1, f0, f1, hB⟩ := slot_after hb1
  clear hb1
  go_wp2_with fail
  exact bodyPost_ret (v := .agg #[.int .u32 o, .int .u32 lc]) (by simp [results, Try.results15, go_sem, k0, k1]) rfl ⟨rfl, by go_grown⟩
set_option maxHeartbeats 400000 in
theorem binArPos_TBinAr (b c : Nat) (o lc : Int) (W : World) (h : W.cell? ⟨b, 3, none⟩ = some (.iface 26 (.pointer (some ⟨c, 0, none⟩)))) (hb : b < W.heap.size) (hX : PosIs Try.prog 15 c o lc W) : PosIs Try.prog 15 b o lc W := by
  intro w hw
  have h1 : w.cell? ⟨b, 3, none⟩ = some (.iface 26 (.pointer (some ⟨c, 0, none⟩))) := by rw [hw.cell (p := ⟨b, 3, none⟩) hb]; exact h
  have hb1 : b < w.heap.size := Nat.lt_of_lt_of_le hb hw.size
  have HX := Lib.hid hX
  have HW := Lib.hid hw
  clear h hb hX hw
  go_enter Try.func15, Try.ntmps15
  go_wp2_with fail
  refine (HX.out _ (below_next HW.out (by go_grown))).mono ?_
  rintro e w1 ⟨rfl, hb1⟩
  obtain ⟨k0, k1, f0, f1, hB⟩ := slot_after hb1
  clear hb1
  go_wp2_with fail
  exact bodyPost_ret (v := .agg #[.int .u32 o, .int .u32 lc]) (by simp [results, Try.results15, go_sem, k0, k1]) rfl ⟨rfl, by go_grown⟩
set_option maxHeartbeats 400000 in
theorem binArPos_TUnAr (b c : Nat) (o lc : Int) (W : World) (h : W.cell? ⟨b, 3, none⟩ = some (.iface 40 (.pointer (some ⟨c, 0, none⟩)))) (hb : b < W.heap.size) (hX : PosIs Try.prog 107 c o lc W) : PosIs Try.prog 15 b o lc W := by
  intro w hw
  have h1 : w.cell? ⟨b, 3, none⟩ = some (.iface 40 (.pointer (some ⟨c, 0, none⟩))) := by rw [hw.cell (p := ⟨b, 3, none⟩) hb]; exact h
  have hb1 : b < w.heap.size := Nat.lt_of_lt_of_le hb hw.size
  have HX := Lib.hid hX
  have HW := Lib.hid hw
  clear h hb hX hw
  go_enter Try.func15, Try.ntmps15
  go_wp2_with fail
  refine (HX.out _ (below_next HW.out (by go_grown))).mono ?_
  rintro e w1 ⟨rfl, hb1⟩
  obtain ⟨k0, k1, f0, f1, hB⟩ := slot_after hb1
  clear hb1
  go_wp2_with fail
  exact bodyPost_ret (v := .agg #[.int .u32 o, .int .u32 lc]) (by simp [results, Try.results15, go_sem, k0, k1]) rfl ⟨rfl, by go_grown⟩
end Go.Proofs.Ytimfajlnlfaffaa
