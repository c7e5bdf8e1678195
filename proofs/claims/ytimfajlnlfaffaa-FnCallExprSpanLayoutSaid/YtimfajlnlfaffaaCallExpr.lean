/- Contracts of CallExpr.Pos and CallExpr.End: the first and the last element say it. Conditions: the cells. -/
import Derived.Test.YtimfajlnlfaffaaOn
namespace Go.Proofs.Ytimfajlnlfaffaa
open Go.RowKit
set_option linter.unusedVariables false

set_option maxHeartbeats 1000000 in
theorem cePos_a {x g b n cap : Nat} {o lc : Int} {w : World} (hn : 0 < n) (hx : w.cell? ⟨x, 0, none⟩ = some (.slice (some ⟨g, 0, none⟩) n cap)) (hg : w.cell? ⟨g, 0, none⟩ = some (.pointer (some ⟨b, 0, none⟩))) (hX : PosIs Try.prog 29 b o lc w) :
    Calls Try.prog 55 #[.pointer (some ⟨x, 0, none⟩)] w fun e w' => e = .returned (.agg #[.int .u32 o, .int .u32 lc]) ∧ Below w.heap.size w w' := by
  have hxz := lt_cell hx
  have hgz := lt_cell hg
  have v1 : (0 : Int) < (n : Int) := by omega
  have HX := Lib.hid hX
  clear hX
  go_enter Try.func55, Try.ntmps55
  go_wp2_with fail
  refine (HX.out _ (by go_grown)).mono ?_
  rintro e w1 ⟨rfl, hb1⟩
  obtain ⟨k0, k1, f0, f1, hB⟩ := slot_after hb1
  clear hb1
  go_wp2_with fail
  exact bodyPost_ret (v := .agg #[.int .u32 o, .int .u32 lc]) (by simp [results, Try.results55, go_sem, k0, k1]) rfl ⟨rfl, by go_grown⟩
set_option maxHeartbeats 1000000 in
theorem cePos_w {x g b n cap c0 : Nat} {A : Option Addr} {o lc : Int} {w : World} (hn : 0 < n) (h0 : w.cell? ⟨x, 0, none⟩ = some (.slice A 0 c0)) (hx : w.cell? ⟨x, 1, none⟩ = some (.slice (some ⟨g, 0, none⟩) n cap)) (hg : w.cell? ⟨g, 0, none⟩ = some (.pointer (some ⟨b, 0, none⟩))) (hX : PosIs Try.prog 37 b o lc w) :
    Calls Try.prog 55 #[.pointer (some ⟨x, 0, none⟩)] w fun e w' => e = .returned (.agg #[.int .u32 o, .int .u32 lc]) ∧ Below w.heap.size w w' := by
  have hxz := lt_cell hx
  have hgz := lt_cell hg
  have v1 : (0 : Int) < (n : Int) := by omega
  have HX := Lib.hid hX
  clear hX
  go_enter Try.func55, Try.ntmps55
  go_wp2_with fail
  refine (HX.out _ (by go_grown)).mono ?_
  rintro e w1 ⟨rfl, hb1⟩
  obtain ⟨k0, k1, f0, f1, hB⟩ := slot_after hb1
  clear hb1
  go_wp2_with fail
  exact bodyPost_ret (v := .agg #[.int .u32 o, .int .u32 lc]) (by simp [results, Try.results55, go_sem, k0, k1]) rfl ⟨rfl, by go_grown⟩
set_option maxHeartbeats 1000000 in
theorem ceEnd_w {x g b n cap : Nat} {o lc : Int} {w : World} (hn : 0 < n) (hn2 : n ≤ 1048576) (hx : w.cell? ⟨x, 1, none⟩ = some (.slice (some ⟨g, 0, none⟩) n cap)) (hg : w.cell? ⟨g, n - 1, none⟩ = some (.pointer (some ⟨b, 0, none⟩))) (hX : PosIs Try.prog 38 b o lc w) :
    Calls Try.prog 56 #[.pointer (some ⟨x, 0, none⟩)] w fun e w' => e = .returned (.agg #[.int .u32 o, .int .u32 lc]) ∧ Below w.heap.size w w' := by
  have hxz := lt_cell hx
  have hgz := lt_cell hg
  have q0 : ((n : Int) == 0) = false := by simp; omega
  have q1 : (n == 0) = false := by simp; omega
  have HX := Lib.hid hX
  have H1 := Lib.hid hx
  have H2 := Lib.hid hg
  clear hX
  go_enter Try.func56, Try.ntmps56
  go_wp2_with fail
  refine wp_gen (fun U => Below w.heap.size w U ∧ U.cell? ⟨w.heap.size, 0, none⟩ = some (.int .u32 0) ∧ U.cell? ⟨w.heap.size, 1, none⟩ = some (.int .u32 0) ∧ U.frozen? ⟨w.heap.size, 0, none⟩ = false ∧ U.frozen? ⟨w.heap.size, 1, none⟩ = false ∧ w.heap.size < U.heap.size) ⟨by go_grown, by simp [go_sem], by simp [go_sem], by simp [go_sem], by simp [go_sem], by simp⟩ ?_
  rintro U ⟨hU, k0, k1, f0, f1, hz⟩
  clear hx hg q0 q1
  have v1 := IntWalk.i64_in ((n : Int) - 1) (by omega)
  have v2 : (0 : Int) ≤ (n : Int) - 1 := by omega
  have v3 : ((n : Int) - 1).toNat = n - 1 := by omega
  have v4 : (n : Int) - 1 < (n : Int) := by omega
  have v5 : n - 1 < n := by omega
  have v6 : 1 ≤ n := hn
  have v7 : (1 : Int) ≤ (n : Int) := by omega
  go_region_held3 (fun U9 => Below w.heap.size w U9 ∧ U9.cell? ⟨x, 1, none⟩ = some (.slice (some ⟨g, 0, none⟩) n cap) ∧ U9.cell? ⟨g, n - 1, none⟩ = some (.pointer (some ⟨b, 0, none⟩)))
    (first | exact keep2 (by go_grown) hxz hgz H1.out H2.out)
    (first | (go_at_call 38; refine (HX.out _ (And.left (by assumption))).mono ?_; rintro e w1 ⟨rfl, hb4⟩; have hB1 := below_next (And.left (by assumption)) hb4; have k0 := bget hb4 hz k0; have k1 := bget hb4 hz k1; have f0 := bfroz hb4 hz f0; have f1 := bfroz hb4 hz f1; clear hb4))
  go_wp2_with fail
  exact bodyPost_ret (v := .agg #[.int .u32 o, .int .u32 lc]) (by simp [results, Try.results56, go_sem, k0, k1]) rfl ⟨rfl, by go_grown⟩
set_option maxHeartbeats 1000000 in
theorem ceEnd_a {x g b n cap c0 : Nat} {A : Option Addr} {o lc : Int} {w : World} (hn : 0 < n) (hn2 : n ≤ 1048576) (h0 : w.cell? ⟨x, 1, none⟩ = some (.slice A 0 c0)) (hx : w.cell? ⟨x, 0, none⟩ = some (.slice (some ⟨g, 0, none⟩) n cap)) (hg : w.cell? ⟨g, n - 1, none⟩ = some (.pointer (some ⟨b, 0, none⟩))) (hX : PosIs Try.prog 30 b o lc w) :
    Calls Try.prog 56 #[.pointer (some ⟨x, 0, none⟩)] w fun e w' => e = .returned (.agg #[.int .u32 o, .int .u32 lc]) ∧ Below w.heap.size w w' := by
  have hxz := lt_cell hx
  have hgz := lt_cell hg
  have HX := Lib.hid hX
  have H1 := Lib.hid hx
  have H2 := Lib.hid hg
  clear hX
  go_enter Try.func56, Try.ntmps56
  go_wp2_with fail
  refine wp_gen (fun U => Below w.heap.size w U ∧ U.cell? ⟨w.heap.size, 0, none⟩ = some (.int .u32 0) ∧ U.cell? ⟨w.heap.size, 1, none⟩ = some (.int .u32 0) ∧ U.frozen? ⟨w.heap.size, 0, none⟩ = false ∧ U.frozen? ⟨w.heap.size, 1, none⟩ = false ∧ w.heap.size < U.heap.size) ⟨by go_grown, by simp [go_sem], by simp [go_sem], by simp [go_sem], by simp [go_sem], by simp⟩ ?_
  rintro U ⟨hU, k0, k1, f0, f1, hz⟩
  clear hx hg h0
  have v1 := IntWalk.i64_in ((n : Int) - 1) (by omega)
  have v2 : (0 : Int) ≤ (n : Int) - 1 := by omega
  have v3 : ((n : Int) - 1).toNat = n - 1 := by omega
  have v4 : (n : Int) - 1 < (n : Int) := by omega
  have v5 : n - 1 < n := by omega
  have v6 : 1 ≤ n := hn
  have v7 : (1 : Int) ≤ (n : Int) := by omega
  go_region_held3 (fun U9 => Below w.heap.size w U9 ∧ U9.cell? ⟨x, 0, none⟩ = some (.slice (some ⟨g, 0, none⟩) n cap) ∧ U9.cell? ⟨g, n - 1, none⟩ = some (.pointer (some ⟨b, 0, none⟩)))
    (first | exact keep2 (by go_grown) hxz hgz H1.out H2.out)
    (first | (go_at_call 30; refine (HX.out _ (And.left (by assumption))).mono ?_; rintro e w1 ⟨rfl, hb4⟩; have hB1 := below_next (And.left (by assumption)) hb4; have k0 := bget hb4 hz k0; have k1 := bget hb4 hz k1; have f0 := bfroz hb4 hz f0; have f1 := bfroz hb4 hz f1; clear hb4))
  go_wp2_with fail
  exact bodyPost_ret (v := .agg #[.int .u32 o, .int .u32 lc]) (by simp [results, Try.results56, go_sem, k0, k1]) rfl ⟨rfl, by go_grown⟩
end Go.Proofs.Ytimfajlnlfaffaa
