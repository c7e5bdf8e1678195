/- Words of one literal in memory, told by where they start and end; lists of such words. Conditions: the cells. -/
import Derived.Test.YtimfajlnlfaffaaNodePos
import Derived.Test.YtimfajlnlfaffaaOwn
namespace Go.Proofs.Ytimfajlnlfaffaa
open Go.RowKit
set_option linter.unusedVariables false

/-- the word at block b, all of whose blocks lie from lo on: one literal from (o1, l1) to (o2, l2) -/
def Span (W : World) (lo b : Nat) (o1 l1 o2 l2 : Int) : Prop :=
  ∃ s c, lo ≤ b ∧ lo ≤ s ∧ lo ≤ c ∧ W.cell? ⟨b, 0, none⟩ = some (.slice (some ⟨s, 0, none⟩) 1 1) ∧ W.cell? ⟨s, 0, none⟩ = some (.iface 34 (.pointer (some ⟨c, 0, none⟩))) ∧
    W.cell? ⟨c, 0, none⟩ = some (.int .u32 o1) ∧ W.cell? ⟨c, 1, none⟩ = some (.int .u32 l1) ∧ W.cell? ⟨c, 2, none⟩ = some (.int .u32 o2) ∧ W.cell? ⟨c, 3, none⟩ = some (.int .u32 l2)
theorem cell_below {W w : World} {a : Addr} {v : Value} (hb : Below W.heap.size W w) (h : W.cell? a = some v) : w.cell? a = some v := by
  rw [hb.cell (World.block_lt_of_cell? W a h)]; exact h
theorem Span.below {W w : World} {lo b : Nat} {o1 l1 o2 l2 : Int} (h : Span W lo b o1 l1 o2 l2) (hb : Below W.heap.size W w) : Span w lo b o1 l1 o2 l2 := by
  obtain ⟨s, c, h1, h2, h3, k1, k2, k3, k4, k5, k6⟩ := h
  exact ⟨s, c, h1, h2, h3, cell_below hb k1, cell_below hb k2, cell_below hb k3, cell_below hb k4, cell_below hb k5, cell_below hb k6⟩
theorem Span.grown {W w : World} {g lo b : Nat} {o1 l1 o2 l2 : Int} (h : Span W lo b o1 l1 o2 l2) (hg : W.grownBy w (some g)) (hlo : g < lo) : Span w lo b o1 l1 o2 l2 := by
  obtain ⟨s, c, h1, h2, h3, k1, k2, k3, k4, k5, k6⟩ := h
  have ne : ∀ {x : Nat}, lo ≤ x → some x ≠ some g := fun hx e => by injection e; omega
  exact ⟨s, c, h1, h2, h3, hg.cell k1 (ne h1), hg.cell k2 (ne h2), hg.cell k3 (ne h3), hg.cell k4 (ne h3), hg.cell k5 (ne h3), hg.cell k6 (ne h3)⟩
theorem Span.less {W : World} {lo lo' b : Nat} {o1 l1 o2 l2 : Int} (h : Span W lo b o1 l1 o2 l2) (hl : lo' ≤ lo) : Span W lo' b o1 l1 o2 l2 := by
  obtain ⟨s, c, h1, h2, h3, k⟩ := h
  exact ⟨s, c, by omega, by omega, by omega, k⟩
theorem Span.pos {W : World} {lo b : Nat} {o1 l1 o2 l2 : Int} (h : Span W lo b o1 l1 o2 l2) : PosIs Try.prog 37 b o1 l1 W := by
  obtain ⟨s, c, h1, h2, h3, k1, k2, k3, k4, k5, k6⟩ := h
  exact wordPos_is b s c 1 1 o1 l1 W (by omega) k1 k2 (World.block_lt_of_cell? W _ k1) (World.block_lt_of_cell? W _ k2) (litPos_is c o1 l1 W k3 k4 (World.block_lt_of_cell? W _ k3))
theorem Span.end_ {W : World} {lo b : Nat} {o1 l1 o2 l2 : Int} (h : Span W lo b o1 l1 o2 l2) : PosIs Try.prog 38 b o2 l2 W := by
  obtain ⟨s, c, h1, h2, h3, k1, k2, k3, k4, k5, k6⟩ := h
  exact wordEnd_is b s c 1 1 o2 l2 W (by omega) (by omega) k1 k2 (World.block_lt_of_cell? W _ k1) (World.block_lt_of_cell? W _ k2) (litEnd_is c o2 l2 W k5 k6 (World.block_lt_of_cell? W _ k5))
set_option maxHeartbeats 400000 in
theorem lw107_any (o1 l1 o2 l2 : Int) (w : World) :
    Calls Try.prog 60 #[.agg #[.int .u32 o1, .int .u32 l1], .agg #[.int .u32 o2, .int .u32 l2]] w fun e w' => e = .returned (.pointer (some ⟨w.heap.size + 1 + 1 + 1 + 1, 0, none⟩)) ∧ Span w' w.heap.size (w.heap.size + 1 + 1 + 1 + 1) o1 l1 o2 l2 ∧ Below w.heap.size w w' := by
  go_enter Try.func60, Try.ntmps60
  go_wp2
  go_ret
  exact ⟨rfl, ⟨w.heap.size + 1 + 1 + 1, w.heap.size + 1 + 1, by omega, by omega, by omega, by simp [go_sem], by simp [go_sem], by simp [go_sem], by simp [go_sem], by simp [go_sem], by simp [go_sem]⟩, by go_grown⟩
set_option maxHeartbeats 1000000 in
/-- the end of a list of words that is not empty -/
theorem wle_any (g b n cap : Nat) (o lc : Int) (w : World) (hn : 0 < n) (hn2 : n ≤ 1048576) (hg : w.cell? ⟨g, n - 1, none⟩ = some (.pointer (some ⟨b, 0, none⟩))) (hX : PosIs Try.prog 38 b o lc w) :
    Calls Try.prog 74 #[.slice (some ⟨g, 0, none⟩) n cap] w fun e w' => e = .returned (.agg #[.int .u32 o, .int .u32 lc]) ∧ Below w.heap.size w w' := by
  have hgz := World.block_lt_of_cell? w _ hg
  simp only at hgz
  have HX := Lib.hid hX
  clear hX
  have q0 : ((n : Int) == 0) = false := by simp; omega
  have q1 : (n == 0) = false := by simp; omega
  have v1 := IntWalk.i64_in ((n : Int) - 1) (by omega)
  have v2 : (0 : Int) ≤ (n : Int) - 1 := by omega
  have v3 : ((n : Int) - 1).toNat = n - 1 := by omega
  have v4 : (n : Int) - 1 < (n : Int) := by omega
  have v5 : n - 1 < n := by omega
  have v6 : 1 ≤ n := hn
  have v7 : (1 : Int) ≤ (n : Int) := by omega
  go_enter Try.func74, Try.ntmps74
  go_wp2_with fail
  refine (HX.out _ (by go_grown)).mono ?_
  rintro e w1 ⟨rfl, hb1⟩
  obtain ⟨k0, k1, f0, f1, hB⟩ := slot_after hb1
  clear hb1
  go_wp2_with fail
  exact bodyPost_ret (v := .agg #[.int .u32 o, .int .u32 lc]) (by simp [results, Try.results74, go_sem, k0, k1]) rfl ⟨rfl, by go_grown⟩
set_option maxHeartbeats 1000000 in
theorem wle_none (w : World) (a : Option Addr) (cap : Nat) :
    Calls Try.prog 74 #[.slice a 0 cap] w fun e w' => e = .returned (.agg #[.int .u32 0, .int .u32 0]) ∧ Below w.heap.size w w' := by
  go_enter Try.func74, Try.ntmps74
  go_wp2
  go_returns
  exact ⟨rfl, by go_grown⟩
set_option maxHeartbeats 1000000 in
theorem bp_any (x g b n cap : Nat) (o lc : Int) (w : World) (ho : 0 ≤ o ∧ o ≤ 4294967295) (hl : 0 ≤ lc ∧ lc ≤ 4294967295) (hn : 0 < n) (hx : w.cell? ⟨x, 1, none⟩ = some (.slice (some ⟨g, 0, none⟩) n cap)) (hg : w.cell? ⟨g, 0, none⟩ = some (.pointer (some ⟨b, 0, none⟩))) (hX : PosIs Try.prog 37 b o lc w) :
    Calls Try.prog 61 #[.pointer (some ⟨x, 0, none⟩)] w fun e w' => e = .returned (.agg #[.int .u32 (addO o lc (-1)), .int .u32 (addLc o lc (-1))]) ∧ Below w.heap.size w w' := by
  have hxz := World.block_lt_of_cell? w _ hx
  have hgz := World.block_lt_of_cell? w _ hg
  simp only at hgz hxz
  have HX := Lib.hid hX
  clear hX
  go_enter Try.func61, Try.ntmps61
  go_wp2_with fail
  refine (HX.out _ (by go_grown)).mono ?_
  rintro e w1 ⟨rfl, hb1⟩
  obtain ⟨k0, k1, f0, f1, hB⟩ := slot_after hb1
  have hz : w.heap.size < w1.heap.size := by have := hb1.size; simp at this; omega
  clear hb1
  go_wp2_with fail
  refine (addCol_any _ _ _ _ ho hl (by omega)).mono ?_
  rintro e w2 ⟨rfl, hb2⟩
  have k0 := bget hb2 hz k0
  have k1 := bget hb2 hz k1
  have f0 := bfroz hb2 hz f0
  have f1 := bfroz hb2 hz f1
  have hB := below_next hB hb2
  clear hb2
  go_wp2_with fail
  exact bodyPost_ret (v := .agg #[.int .u32 (addO o lc (-1)), .int .u32 (addLc o lc (-1))]) (by simp [results, Try.results61, go_sem, k0, k1]) rfl ⟨rfl, by go_grown⟩
set_option maxHeartbeats 1000000 in
theorem be_any (x g b n cap : Nat) (o lc : Int) (w : World) (ho : 0 ≤ o ∧ o ≤ 4294967295) (hl : 0 ≤ lc ∧ lc ≤ 4294967295) (hn : 0 < n) (hn2 : n ≤ 1048576) (hx : w.cell? ⟨x, 1, none⟩ = some (.slice (some ⟨g, 0, none⟩) n cap)) (hg : w.cell? ⟨g, n - 1, none⟩ = some (.pointer (some ⟨b, 0, none⟩))) (hX : PosIs Try.prog 38 b o lc w) :
    Calls Try.prog 62 #[.pointer (some ⟨x, 0, none⟩)] w fun e w' => e = .returned (.agg #[.int .u32 (addO o lc 1), .int .u32 (addLc o lc 1)]) ∧ Below w.heap.size w w' := by
  have hxz := World.block_lt_of_cell? w _ hx
  have hgz := World.block_lt_of_cell? w _ hg
  simp only at hgz hxz
  have HX := Lib.hid hX
  have HG := Lib.hid hg
  clear hX hg
  go_enter Try.func62, Try.ntmps62
  go_wp2_with fail
  refine (wle_any g b n cap o lc _ hn hn2 (cell_alloc HG.out) (HX.out.grow (by go_grown))).mono ?_
  rintro e w1 ⟨rfl, hb1⟩
  obtain ⟨k0, k1, f0, f1, hB⟩ := slot_after hb1
  have hz : w.heap.size < w1.heap.size := by have := hb1.size; simp at this; omega
  clear hb1
  go_wp2_with fail
  refine (addCol_any _ _ _ _ ho hl (by omega)).mono ?_
  rintro e w2 ⟨rfl, hb2⟩
  have k0 := bget hb2 hz k0
  have k1 := bget hb2 hz k1
  have f0 := bfroz hb2 hz f0
  have f1 := bfroz hb2 hz f1
  have hB := below_next hB hb2
  clear hb2
  go_wp2_with fail
  exact bodyPost_ret (v := .agg #[.int .u32 (addO o lc 1), .int .u32 (addLc o lc 1)]) (by simp [results, Try.results62, go_sem, k0, k1]) rfl ⟨rfl, by go_grown⟩
end Go.Proofs.Ytimfajlnlfaffaa
