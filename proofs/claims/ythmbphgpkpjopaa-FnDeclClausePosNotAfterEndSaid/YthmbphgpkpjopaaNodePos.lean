/- Where a node starts or ends: 'in this world and in every world that only grew out of it the method f of the node at block c returns (o, lc)'. Conditions: the cells that the method reads. -/
import Derived.Test.YthmbphgpkpjopaaEnds
import Derived.OpenShut
import Derived.Outline
import Derived.Deep.RegionHeld3
namespace Go.Proofs.Ythmbphgpkpjopaa
open Go.RowKit
set_option linter.unusedVariables false

def PosIs (P : Program) (f c : Nat) (o lc : Int) (W : World) : Prop :=
  ∀ w, Below W.heap.size W w → Calls P f #[.pointer (some ⟨c, 0, none⟩)] w fun e w' => e = .returned (.agg #[.int .u32 o, .int .u32 lc]) ∧ Below w.heap.size w w'
theorem PosIs.grow {P : Program} {f c : Nat} {o lc : Int} {W W' : World} (h : PosIs P f c o lc W) (hb : Below W.heap.size W W') : PosIs P f c o lc W' :=
  fun w hw => h w (below_next hb hw)
theorem PosIs.now {P : Program} {f c : Nat} {o lc : Int} {W : World} (h : PosIs P f c o lc W) : Calls P f #[.pointer (some ⟨c, 0, none⟩)] W fun e w' => e = .returned (.agg #[.int .u32 o, .int .u32 lc]) ∧ Below W.heap.size W w' :=
  h W (Below.refl _ _)
/-- the world at hand under a name of its own, with what is known of it -/
theorem wp_gen {P : Program} {c : Code} {Q : Exit → Act → World → Prop} {a : Act} {W : World} (R : World → Prop) (h : R W) (k : ∀ W', R W' → c.wp P Q a W') : c.wp P Q a W := k W h
theorem bget {W w : World} {c i : Nat} {v : Value} (hw : Below W.heap.size W w) (hc : c < W.heap.size) (h : W.cell? ⟨c, i, none⟩ = some v) : w.cell? ⟨c, i, none⟩ = some v := by
  rw [hw.cell (p := ⟨c, i, none⟩) hc]; exact h

theorem bfroz {W w : World} {c i : Nat} {v : Bool} (hw : Below W.heap.size W w) (hc : c < W.heap.size) (h : W.frozen? ⟨c, i, none⟩ = v) : w.frozen? ⟨c, i, none⟩ = v := by
  rw [hw.frozen (p := ⟨c, i, none⟩) hc]; exact h

theorem keep2 {w W9 : World} {b s i j : Nat} {v u : Value} (hQ : Below w.heap.size w W9) (hb : b < w.heap.size) (hs : s < w.heap.size) (h1 : w.cell? ⟨b, i, none⟩ = some v) (h2 : w.cell? ⟨s, j, none⟩ = some u) :
    Below w.heap.size w W9 ∧ W9.cell? ⟨b, i, none⟩ = some v ∧ W9.cell? ⟨s, j, none⟩ = some u := ⟨hQ, bget hQ hb h1, bget hQ hs h2⟩

theorem litPos_is (c : Nat) (o lc : Int) (W : World) (h0 : W.cell? ⟨c, 0, none⟩ = some (.int .u32 o)) (h1 : W.cell? ⟨c, 1, none⟩ = some (.int .u32 lc)) (hc : c < W.heap.size) : PosIs Try.prog 25 c o lc W :=
  fun w hw => litPos_any c o lc w (bget hw hc h0) (bget hw hc h1) (Nat.lt_of_lt_of_le hc hw.size)
theorem litEnd_is (c : Nat) (o lc : Int) (W : World) (h0 : W.cell? ⟨c, 2, none⟩ = some (.int .u32 o)) (h1 : W.cell? ⟨c, 3, none⟩ = some (.int .u32 lc)) (hc : c < W.heap.size) : PosIs Try.prog 22 c o lc W :=
  fun w hw => litEnd_any c o lc w (bget hw hc h0) (bget hw hc h1) (Nat.lt_of_lt_of_le hc hw.size)
set_option maxHeartbeats 1000000 in
/-- a word whose last part is a literal -/
theorem wordEnd_is (b s c n cap : Nat) (o lc : Int) (W : World) (hn : 0 < n) (hn2 : n ≤ 4611686018427387904) (h : W.cell? ⟨b, 0, none⟩ = some (.slice (some ⟨s, 0, none⟩) n cap)) (hs : W.cell? ⟨s, n - 1, none⟩ = some (.iface 29 (.pointer (some ⟨c, 0, none⟩)))) (hb : b < W.heap.size) (hsb : s < W.heap.size) (hX : PosIs Try.prog 22 c o lc W) : PosIs Try.prog 32 b o lc W := by
  intro w hw
  have h1 := bget hw hb h
  have h2 := bget hw hsb hs
  have hb1 : b < w.heap.size := Nat.lt_of_lt_of_le hb hw.size
  have hs1 : s < w.heap.size := Nat.lt_of_lt_of_le hsb hw.size
  have HX := Lib.hid hX
  have HW := Lib.hid hw
  clear h hs hb hsb hX hw
  go_enter Try.func32, Try.ntmps32
  go_wp2_with fail
  refine wp_gen (fun U => Below w.heap.size w U ∧ U.cell? ⟨w.heap.size, 0, none⟩ = some (.int .u32 0) ∧ U.cell? ⟨w.heap.size, 1, none⟩ = some (.int .u32 0) ∧ U.frozen? ⟨w.heap.size, 0, none⟩ = false ∧ U.frozen? ⟨w.heap.size, 1, none⟩ = false ∧ w.heap.size < U.heap.size) ⟨by go_grown, by simp [go_sem], by simp [go_sem], by simp [go_sem], by simp [go_sem], by simp⟩ ?_
  rintro U ⟨hU, k0, k1, f0, f1, hz⟩
  have H1 := Lib.hid h1
  have H2 := Lib.hid h2
  have g1 := bget hU hb1 h1
  have g2 := bget hU hs1 h2
  clear h1 h2
  have v1 := IntWalk.i64_in ((n : Int) - 1) (by omega)
  have v2 : (0 : Int) ≤ (n : Int) - 1 := by omega
  have v3 : ((n : Int) - 1).toNat = n - 1 := by omega
  have v4 : (n : Int) - 1 < (n : Int) := by omega
  have v5 : n - 1 < n := by omega
  have v6 : 1 ≤ n := hn
  have v7 : (1 : Int) ≤ (n : Int) := by omega
  go_region_held3 (fun U9 => Below w.heap.size w U9 ∧ U9.cell? ⟨b, 0, none⟩ = some (.slice (some ⟨s, 0, none⟩) n cap) ∧ U9.cell? ⟨s, n - 1, none⟩ = some (.iface 29 (.pointer (some ⟨c, 0, none⟩))))
    (first | exact keep2 (by go_grown) hb1 hs1 H1.out H2.out)
    (first | (go_at_call 22; refine (HX.out _ (below_next HW.out (And.left (by assumption)))).mono ?_; rintro e w1 ⟨rfl, hb4⟩; have hB1 := below_next (And.left (by assumption)) hb4; have k0 := bget hb4 hz k0; have k1 := bget hb4 hz k1; have f0 := bfroz hb4 hz f0; have f1 := bfroz hb4 hz f1; clear hb4))
  go_wp2_with fail
  exact bodyPost_ret (v := .agg #[.int .u32 o, .int .u32 lc]) (by simp [results, Try.results32, go_sem, k0, k1]) rfl ⟨rfl, by go_grown⟩
end Go.Proofs.Ythmbphgpkpjopaa
