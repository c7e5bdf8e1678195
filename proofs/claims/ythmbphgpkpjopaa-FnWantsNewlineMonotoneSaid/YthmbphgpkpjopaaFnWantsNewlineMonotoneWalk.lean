/- The walk of FnWantsNewlineMonotone: the Go text returns true. Conditions: none. -/
import Derived.Test.YthmbphgpkpjopaaMore
import Derived.Handy
import Derived.Outline
import Derived.OpenShut
namespace Go.Proofs.Ythmbphgpkpjopaa.fnWantsNewlineMonotone
open Go.RowKit
set_option linter.unusedVariables false
theorem info8w : (Try.prog.info? 5).map (fun i => (i.zero, i.size, i.bytes)) = some (some (.int .u8 0), 1, 1) := by kernel_rfl
set_option maxHeartbeats 1000000 in
theorem nws_any (w : World) : Calls Try.prog 37 #[.nilIface, .int .i64 4096] w fun e w' => ∃ b, e = .returned (.pointer (some ⟨b, 0, none⟩)) ∧ Below w.heap.size w w' := by
  obtain ⟨i0, hi, hz0, hz1, hz2⟩ := info_parts info8w
  have hta : ∀ W : World, (Instr.typeAssert .nilIface 82 70 true).run Try.prog W = .ok (.tuple #[.pointer none, .bool false]) W := fun _ => by kernel_rfl
  go_enter Try.func37, Try.ntmps37
  go_wp2_with (first | (at_make; (refine wpList_make_full _ rfl _ _ 38 rfl w.heap.size 5 i0 (.int .u8 0) 1 Try.underlying38 hi hz0 hz1 _ _ _ _ 4096 rfl rfl rfl rfl (by rw [hz2]; omega) (by unfold maxLen; omega) (Nat.le_refl _) ?_); intro w1 hown hgrow))
  go_ret
  exact ⟨_, rfl, ((Below.refl _ _).grown hgrow (Nat.le_refl _) (by simp)).alloc hgrow.size _⟩
set_option maxHeartbeats 1000000 in
theorem nw_any (w : World) : Calls Try.prog 34 #[.nilIface] w fun e w' => ∃ b, e = .returned (.pointer (some ⟨b, 0, none⟩)) ∧ Below w.heap.size w w' := by
  go_enter Try.func34, Try.ntmps34
  go_wp2_with (go_at_call 37; refine (nws_any _).mono ?_; rintro e w1 ⟨b, rfl, hb⟩)
  go_ret
  exact ⟨_, rfl, hb⟩
/-- the cells of a printer that matter here -/
def Prn (mi si wn mn : Bool) (c : Value) (l : Int) (p : Nat) (W : World) : Prop :=
  W.cell? ⟨p, 10, none⟩ = some (.bool mi) ∧ W.cell? ⟨p, 11, none⟩ = some (.bool si) ∧ W.cell? ⟨p, 14, none⟩ = some (.bool wn) ∧ W.cell? ⟨p, 15, none⟩ = some (.bool mn) ∧ W.cell? ⟨p, 17, none⟩ = some c ∧ W.cell? ⟨p, 19, none⟩ = some (.int .u64 l)
theorem Prn.below {mi si wn mn : Bool} {c : Value} {l : Int} {p : Nat} {W w : World} (h : Prn mi si wn mn c l p W) (hb : Below W.heap.size W w) : Prn mi si wn mn c l p w := by
  obtain ⟨h1, h2, h3, h4, h5, h6⟩ := h
  exact ⟨cell_later hb h1, cell_later hb h2, cell_later hb h3, cell_later hb h4, cell_later hb h5, cell_later hb h6⟩
set_option maxRecDepth 100000 in
set_option maxHeartbeats 1000000 in
theorem np_any (x y : Bool) (s b1 b2 : Nat) (w : World) (h0 : w.cell? ⟨s, 0, none⟩ = some (.func (.func 35) #[] #[.pointer (some ⟨b1, 0, none⟩)])) (h1 : w.cell? ⟨s, 1, none⟩ = some (.func (.func 36) #[] #[.pointer (some ⟨b2, 0, none⟩)])) (h2 : w.cell? ⟨b1, 0, none⟩ = some (.bool x)) (h3 : w.cell? ⟨b2, 0, none⟩ = some (.bool y)) :
    Calls Try.prog 27 #[.slice (some ⟨s, 0, none⟩) 2 2] w fun e w' => ∃ p, e = .returned (.pointer (some ⟨p, 0, none⟩)) ∧ w.heap.size ≤ p ∧ Prn y x false false (.slice none 0 0) 0 p w' ∧ (∀ k, w'.frozen? ⟨p, k, none⟩ = false) ∧ Below w.heap.size w w' := by
  have H0 := Lib.hid h0
  have H1 := Lib.hid h1
  have H2 := Lib.hid h2
  have H3 := Lib.hid h3
  clear h0 h1 h2 h3
  go_enter Try.func27, Try.ntmps27
  go_wp2_with fail
  refine (nw_any _).mono ?_
  rintro e w1 ⟨b, rfl, hb1⟩
  have h0 := cell_later hb1 H0.out
  have h1 := cell_later hb1 H1.out
  have h2 := cell_later hb1 H2.out
  have h3 := cell_later hb1 H3.out
  have z0 := World.block_lt_of_cell? _ _ h0
  have z2 := World.block_lt_of_cell? _ _ h2
  have z3 := World.block_lt_of_cell? _ _ h3
  have zb := hb1.size
  simp only at z0 z2 z3
  go_wp2_with fail
  go_rounds 3
  go_ret
  exact ⟨_, rfl, by omega, ⟨by simp [go_sem], by simp [go_sem], by simp [go_sem], by simp [go_sem], by simp [go_sem], by simp [go_sem]⟩, fun k => by simp [go_sem], by go_grown⟩
theorem infoC : (Try.prog.info? 118).map (fun i => (i.zero, i.size, i.bytes)) = some (some (.agg #[.int .u32 0, .int .u32 0, .string ⟨#[]⟩]), 3, 24) := by kernel_rfl
set_option maxRecDepth 100000 in
set_option maxHeartbeats 1000000 in
theorem npf_any (x y z u : Bool) (n : Nat) (l : Int) (w : World) (hn : n ≤ 255) :
    Calls Try.prog 18 #[.bool x, .bool y, .bool z, .bool u, .int .u8 n, .int .u64 l] w fun e w' => ∃ p c, e = .returned (.pointer (some ⟨p, 0, none⟩)) ∧ Prn y x z u (.slice c n n) l p w' ∧ Below w.heap.size w w' := by
  obtain ⟨i0, hi, hz0, hz1, hz2⟩ := info_parts infoC
  have HI := Lib.hid (And.intro hi (And.intro hz1 hz2))
  have HZ := Lib.hid hz0
  clear hi hz0 hz1 hz2
  go_enter Try.func18, Try.ntmps18
  go_wp2_with (first | (go_at_call 28; go_in) | (go_at_call 29; go_in))
  refine (np_any x y (w.heap.size + 1 + 1) w.heap.size (w.heap.size + 1) _ ?_ ?_ ?_ ?_).mono ?_
  iterate 4 (simp [go_sem])
  rintro e w1 ⟨p, rfl, hp, ⟨k1, k2, k3, k4, k5, k6⟩, hf, hb1⟩
  have zp := World.block_lt_of_cell? _ _ k1
  simp only at zp
  have hp0 : w.heap.size ≤ p := by simp at hp; omega
  have hB : Below w.heap.size w w1 := below_via (by go_grown) hb1 (by simp; omega)
  have f14 := hf 14
  have f15 := hf 15
  have f17 := hf 17
  have f19 := hf 19
  clear hf hb1 hp
  go_wp2_with (first | (at_make; (refine wpList_make_full _ rfl _ _ 58 rfl w.heap.size 118 i0 (.agg #[.int .u32 0, .int .u32 0, .string ⟨#[]⟩]) 3 Try.underlying58 HI.out.1 HZ.out HI.out.2.1 _ _ _ _ n rfl rfl rfl rfl (by rw [HI.out.2.2]; omega) (by unfold maxLen; omega) (by simpa using hB.size) ?_); intro w2 hown hgrow; have g1 : w2.cell? ⟨p, 10, none⟩ = some (.bool y) := hgrow.cell (by simp [go_sem, k1]) (by simp); have g2 : w2.cell? ⟨p, 11, none⟩ = some (.bool x) := hgrow.cell (by simp [go_sem, k2]) (by simp); have g3 : w2.cell? ⟨p, 14, none⟩ = some (.bool z) := hgrow.cell (by simp [go_sem, k3]) (by simp); have g4 : w2.cell? ⟨p, 15, none⟩ = some (.bool u) := hgrow.cell (by simp [go_sem, k4]) (by simp); have g5 : w2.cell? ⟨p, 17, none⟩ = some (.slice none 0 0) := hgrow.cell (by simp [go_sem, k5]) (by simp); have g6 : w2.cell? ⟨p, 19, none⟩ = some (.int .u64 0) := hgrow.cell (by simp [go_sem, k6]) (by simp); have e5 : w2.frozen? ⟨p, 17, none⟩ = false := (World.frozen?_of_block (hgrow.block p (by simpa using zp) (by simp))).trans (by simp [go_sem, f17]); have e6 : w2.frozen? ⟨p, 19, none⟩ = false := (World.frozen?_of_block (hgrow.block p (by simpa using zp) (by simp))).trans (by simp [go_sem, f19]); have hB2 : Below w.heap.size w w2 := ((hB.setCell hp0 _).setCell hp0 _).grown hgrow (by simpa using hB.size) (by simp)))
  go_ret
  exact ⟨p, some ⟨w1.heap.size, 0, none⟩, rfl, ⟨by simp [go_sem, g1], by simp [go_sem, g2], by simp [go_sem, g3], by simp [go_sem, g4], by simp [go_sem, g5], by simp [go_sem, g6]⟩, (hB2.setCell hp0 _).setCell hp0 _⟩
/-- what wantsNewline answers -/
def wnB (mi si wn mn : Bool) (n : Nat) (line l : Int) (esc : Bool) : Bool := mn || (!(si && n == 0) && (!(esc && mi) && (wn || decide (line < l))))
theorem wp_gen {P : Program} {c : Code} {Q : Exit → Act → World → Prop} {a : Act} {W : World} (R : World → Prop) (h : R W) (k : ∀ W', R W' → c.wp P Q a W') : c.wp P Q a W := k W h
theorem keep5 {V U : World} {p q i j : Nat} {x y z v : Value} (h0 : V.cell? ⟨p, i, none⟩ = some x) (h1 : V.cell? ⟨p, j, none⟩ = some y) (h2 : V.cell? ⟨q, 0, none⟩ = some z) (h3 : V.cell? ⟨q, 1, none⟩ = some v) (hb : Below V.heap.size V U) :
    Below V.heap.size V U ∧ U.cell? ⟨p, i, none⟩ = some x ∧ U.cell? ⟨p, j, none⟩ = some y ∧ U.cell? ⟨q, 0, none⟩ = some z ∧ U.cell? ⟨q, 1, none⟩ = some v := ⟨hb, cell_later hb h0, cell_later hb h1, cell_later hb h2, cell_later hb h3⟩
set_option maxHeartbeats 1000000 in
theorem wn_any (mi si wn mn esc : Bool) (n : Nat) (line o lc : Int) (c : Option Addr) (p : Nat) (w : World) (hP : Prn mi si wn mn (.slice c n n) line p w) (hl : 0 ≤ lc ∧ lc ≤ 4294967295) :
    Calls Try.prog 30 #[.pointer (some ⟨p, 0, none⟩), .agg #[.int .u32 o, .int .u32 lc], .bool esc] w fun e w' => e = .returned (.bool (wnB mi si wn mn n line (lineOf lc) esc)) ∧ Below w.heap.size w w' := by
  obtain ⟨k1, k2, k3, k4, k5, k6⟩ := hP
  have zp := World.block_lt_of_cell? _ _ k1
  simp only at zp
  cases mn
  rotate_left
  · go_enter Try.func30, Try.ntmps30
    go_wp2_with fail
    go_ret
    exact ⟨by simp [wnB], by go_grown⟩
  have hsn : (si = true ∧ n = 0) ∨ (si = false) ∨ (si = true ∧ n ≠ 0) := by
    cases si
    · exact .inr (.inl rfl)
    · by_cases h : n = 0
      · exact .inl ⟨rfl, h⟩
      · exact .inr (.inr ⟨rfl, h⟩)
  rcases hsn with ⟨rfl, rfl⟩ | hsn
  · go_enter Try.func30, Try.ntmps30
    go_wp2_with fail
    go_ret
    exact ⟨by simp [wnB], by go_grown⟩
  have hem : (esc = true ∧ mi = true) ∨ esc = false ∨ (esc = true ∧ mi = false) := by cases esc <;> cases mi <;> simp
  have hs2 : (!(si && n == 0)) = true := by rcases hsn with h | ⟨h, h2⟩ <;> simp [h]; exact h2
  have HS2 := Lib.hid hs2
  clear hs2
  rcases hem with ⟨rfl, rfl⟩ | hem
  · rcases hsn with rfl | ⟨rfl, h2⟩
    · go_enter Try.func30, Try.ntmps30
      go_wp2_with fail
      go_ret
      exact ⟨by simp [wnB], by go_grown⟩
    · have q0 : ((n : Int) == 0) = false := by simp [h2]
      have q1 : (n == 0) = false := by simp [h2]
      go_enter Try.func30, Try.ntmps30
      go_wp2_with fail
      go_ret
      exact ⟨by simp [wnB], by go_grown⟩
  have hem2 : (!(esc && mi)) = true := by rcases hem with h | ⟨h, h2⟩ <;> simp [*]
  have EW : Hid (wnB mi si wn false n line (lineOf lc) esc = (wn || decide (line < lineOf lc))) := Lib.hid (by unfold wnB; rw [HS2.out, hem2]; simp)
  rw [EW.out]
  clear hem2 EW HS2
  have hq : si = false ∨ (si = true ∧ ((n : Int) == 0) = false ∧ (n == 0) = false) := by
    rcases hsn with h | ⟨h, h2⟩
    · exact .inl h
    · exact .inr ⟨h, by simp [h2], by simp [h2]⟩
  clear hsn
  have K1 := Lib.hid k1
  have K3 := Lib.hid k3
  have K6 := Lib.hid k6
  cases wn
  · rcases hq with rfl | ⟨rfl, q0, q1⟩
    all_goals
      rcases hem with rfl | ⟨rfl, rfl⟩
      all_goals
        go_enter Try.func30, Try.ntmps30
        go_wp2_with fail
        refine wp_gen (fun U => Below w.heap.size w U ∧ U.cell? ⟨p, 14, none⟩ = some (.bool false) ∧ U.cell? ⟨p, 19, none⟩ = some (.int .u64 line) ∧ U.cell? ⟨w.heap.size, 0, none⟩ = some (.int .u32 o) ∧ U.cell? ⟨w.heap.size, 1, none⟩ = some (.int .u32 lc)) ⟨by go_grown, cell_alloc K3.out, cell_alloc K6.out, by simp [go_sem], by simp [go_sem]⟩ ?_
        rintro U ⟨hU, c0, c1, c2, c3⟩
        have C0 := Lib.hid c0
        have C1 := Lib.hid c1
        have C2 := Lib.hid c2
        have C3 := Lib.hid c3
        clear k1 k2 k3 k4 k5 k6
        go_region_held3 (fun W9 => Below U.heap.size U W9 ∧ W9.cell? ⟨p, 14, none⟩ = some (.bool false) ∧ W9.cell? ⟨p, 19, none⟩ = some (.int .u64 line) ∧ W9.cell? ⟨w.heap.size, 0, none⟩ = some (.int .u32 o) ∧ W9.cell? ⟨w.heap.size, 1, none⟩ = some (.int .u32 lc))
          (first | (refine keep5 C0.out C1.out C2.out C3.out ?_; go_grown; done))
          (first | (go_at_call 10; refine (line_any _ lc _ hl).mono ?_; rintro e wN ⟨rfl, hbN⟩; have hBN := below_next (And.left (by assumption)) hbN; clear hbN))
        go_wp2_with fail
        go_ret
        exact ⟨by simp, below_next hU hBN⟩
  · rcases hq with rfl | ⟨rfl, q0, q1⟩
    all_goals
      rcases hem with rfl | ⟨rfl, rfl⟩
      all_goals
        go_enter Try.func30, Try.ntmps30
        go_wp2_with fail
        refine wp_region_noPanic ?_
        refine wp_region_held_drew (S := fun W9 => W9.cell? ⟨p, 14, none⟩ = some (.bool true)) (by kernel_rfl) (cell_alloc K3.out) (fun hHeld => ?_)
        refine wpAnyH_take (i := 0) (oi := ?_) (v := ?_) ?_ (by kernel_rfl) (by kernel_rfl) (by kernel_rfl) (fun _ _ _ h => h) (Or.inl ⟨?_, ?_⟩) (by assumption) ?_
        rotate_left 2
        · (simp only [List.getElem?_toArray, List.getElem?_cons_zero]; try rfl)
        · rfl
        · (intro W9 hSw; (try dsimp only at hSw); first | (go_simp; done) | (go_simp; with_reducible rfl))
        simp only [Act.put, List.setIfInBounds_toArray, List.set_cons_zero, List.set_cons_succ]
        refine wpAnyH_take (i := 1) (oi := ?_) (v := ?_) ?_ (by kernel_rfl) (by kernel_rfl) (by kernel_rfl) (fun _ _ _ h => h) (Or.inl ⟨?_, ?_⟩) (by assumption) ?_
        rotate_left 2
        · (simp only [List.getElem?_toArray, List.getElem?_cons_succ, List.getElem?_cons_zero]; try rfl)
        · rfl
        · (intro W9 hSw; (try dsimp only at hSw); first | (go_simp; done) | (go_simp; with_reducible rfl))
        simp only [Act.put, List.setIfInBounds_toArray, List.set_cons_zero, List.set_cons_succ]
        refine wpAnyH_take (i := 2) (oi := ?_) (v := ?_) ?_ (by kernel_rfl) (by kernel_rfl) (by kernel_rfl) (fun _ _ _ h => h) (Or.inl ⟨?_, ?_⟩) (by assumption) ?_
        rotate_left 2
        · (simp only [List.getElem?_toArray, List.getElem?_cons_succ, List.getElem?_cons_zero]; try rfl)
        · rfl
        · (intro W9 hSw; (try dsimp only at hSw); first | (go_simp; done) | (go_simp; with_reducible rfl))
        simp only [Act.put, List.setIfInBounds_toArray, List.set_cons_zero, List.set_cons_succ]
        refine wpAnyH_take (i := 3) (oi := ?_) (v := ?_) ?_ (by kernel_rfl) (by kernel_rfl) (by kernel_rfl) (fun _ _ _ h => h) (Or.inl ⟨?_, ?_⟩) (by assumption) ?_
        rotate_left 2
        · (simp only [List.getElem?_toArray, List.getElem?_cons_succ, List.getElem?_cons_zero]; try rfl)
        · rfl
        · (intro W9 hSw; (try dsimp only at hSw); first | (go_simp; done) | (go_simp; with_reducible rfl))
        simp only [Act.put, List.setIfInBounds_toArray, List.set_cons_zero, List.set_cons_succ]
        refine wpAnyH_take (i := 4) (oi := ?_) (v := ?_) ?_ (by kernel_rfl) (by kernel_rfl) (by kernel_rfl) (fun _ _ _ h => h) (Or.inl ⟨?_, ?_⟩) (by assumption) ?_
        rotate_left 2
        · (simp only [List.getElem?_toArray, List.getElem?_cons_succ, List.getElem?_cons_zero]; try rfl)
        · rfl
        · (intro W9 hSw; (try dsimp only at hSw); first | (go_simp; done) | (go_simp; with_reducible rfl))
        simp only [Act.put, List.setIfInBounds_toArray, List.set_cons_zero, List.set_cons_succ]
        refine wpAnyH_take (i := 5) (oi := ?_) (v := undef) ?_ (by kernel_rfl) (by kernel_rfl) (by kernel_rfl) (fun _ _ _ h => h) (Or.inr ⟨?_, rfl⟩) (by assumption) ?_
        rotate_left 1
        · (simp only [List.getElem?_toArray, List.getElem?_cons_succ, List.getElem?_cons_zero]; try rfl)
        · rfl
        simp only [Act.put, List.setIfInBounds_toArray, List.set_cons_zero, List.set_cons_succ]
        refine wpAnyH_take (i := 7) (oi := ?_) (v := undef) ?_ (by kernel_rfl) (by kernel_rfl) (by kernel_rfl) (fun _ _ _ h => h) (Or.inr ⟨?_, rfl⟩) (by assumption) ?_
        rotate_left 1
        · (simp only [List.getElem?_toArray, List.getElem?_cons_succ, List.getElem?_cons_zero]; try rfl)
        · rfl
        simp only [Act.put, List.setIfInBounds_toArray, List.set_cons_zero, List.set_cons_succ]
        refine wpAnyH_take (i := 8) (oi := ?_) (v := undef) ?_ (by kernel_rfl) (by kernel_rfl) (by kernel_rfl) (fun _ _ _ h => h) (Or.inr ⟨?_, rfl⟩) (by assumption) ?_
        rotate_left 1
        · (simp only [List.getElem?_toArray, List.getElem?_cons_succ, List.getElem?_cons_zero]; try rfl)
        · rfl
        simp only [Act.put, List.setIfInBounds_toArray, List.set_cons_zero, List.set_cons_succ]
        refine wpAnyH_take (i := 9) (oi := ?_) (v := undef) ?_ (by kernel_rfl) (by kernel_rfl) (by kernel_rfl) (fun _ _ _ h => h) (Or.inr ⟨?_, rfl⟩) (by assumption) ?_
        rotate_left 1
        · (simp only [List.getElem?_toArray, List.getElem?_cons_succ, List.getElem?_cons_zero]; try rfl)
        · rfl
        simp only [Act.put, List.setIfInBounds_toArray, List.set_cons_zero, List.set_cons_succ]
        refine wpAnyH_take (i := 10) (oi := ?_) (v := undef) ?_ (by kernel_rfl) (by kernel_rfl) (by kernel_rfl) (fun _ _ _ h => h) (Or.inr ⟨?_, rfl⟩) (by assumption) ?_
        rotate_left 1
        · (simp only [List.getElem?_toArray, List.getElem?_cons_succ, List.getElem?_cons_zero]; try rfl)
        · rfl
        simp only [Act.put, List.setIfInBounds_toArray, List.set_cons_zero, List.set_cons_succ]
        refine wpAnyH_ready (rs := [6]) (by kernel_rfl) (by simp) ?_
        refine AllReadyH.cons (o := ?_) ?_ (fun K hK => ?_) AllReadyH.nil
        rotate_left 1
        · (simp only [List.getElem?_toArray, List.getElem?_cons_succ, List.getElem?_cons_zero]; try rfl)
        go_simp
        refine hK.out _ _ (by assumption) (fun hHeld => ?_)
        clear hK K
        refine wpAnyH_take (i := 11) (oi := ?_) (v := undef) ?_ (by kernel_rfl) (by kernel_rfl) (by kernel_rfl) (fun _ _ _ h => h) (Or.inr ⟨?_, rfl⟩) (by assumption) ?_
        rotate_left 1
        · (simp only [List.getElem?_toArray, List.getElem?_cons_succ, List.getElem?_cons_zero]; try rfl)
        · rfl
        simp only [Act.put, List.setIfInBounds_toArray, List.set_cons_zero, List.set_cons_succ]
        refine wpAnyH_take (i := 12) (oi := ?_) (v := ?_) ?_ (by kernel_rfl) (by kernel_rfl) (by kernel_rfl) (fun _ _ _ h => h) (Or.inl ⟨?_, ?_⟩) (by assumption) ?_
        rotate_left 2
        · (simp only [List.getElem?_toArray, List.getElem?_cons_succ, List.getElem?_cons_zero]; try rfl)
        · rfl
        · (intro W9 hSw; (try dsimp only at hSw); first | (go_simp; done) | (go_simp; with_reducible rfl))
        simp only [Act.put, List.setIfInBounds_toArray, List.set_cons_zero, List.set_cons_succ]
        refine wpAnyH_take (i := 13) (oi := ?_) (v := ?_) ?_ (by kernel_rfl) (by kernel_rfl) (by kernel_rfl) (fun _ _ _ h => h) (Or.inl ⟨?_, ?_⟩) (by assumption) ?_
        rotate_left 2
        · (simp only [List.getElem?_toArray, List.getElem?_cons_succ, List.getElem?_cons_zero]; try rfl)
        · rfl
        · (intro W9 hSw; (try dsimp only at hSw); first | (go_simp; done) | (go_simp; with_reducible rfl))
        simp only [Act.put, List.setIfInBounds_toArray, List.set_cons_zero, List.set_cons_succ]
        refine wpAnyH_done (by kernel_rfl) ?_ _
        refine NoPanic.normal ?_
        go_wp2_with fail
        go_ret
        exact ⟨by simp, by go_grown⟩
set_option maxHeartbeats 1000000 in
theorem cwn_is (mi si wn mn esc : Bool) (n : Nat) (line o lc : Int) (c : Option Addr) (p : Nat) (r : Bool) (w : World) (hr : Hid (wnB mi si wn mn n line (lineOf lc) esc = r)) (hP : Prn mi si wn mn (.slice c n n) line p w) (hl : 0 ≤ lc ∧ lc ≤ 4294967295) :
    Calls Try.prog 19 #[.pointer (some ⟨p, 0, none⟩), .agg #[.int .u32 o, .int .u32 lc], .bool esc] w fun e w' => e = .returned (.bool r) ∧ Below w.heap.size w w' := by
  have HP := Lib.hid hP
  rw [← hr.out]
  clear hP hr
  go_enter Try.func19, Try.ntmps19
  go_wp2_with fail
  refine (wn_any mi si wn mn esc n line o lc c p _ (HP.out.below (by go_grown)) hl).mono ?_
  rintro e w1 ⟨rfl, hb1⟩
  go_wp2_with fail
  go_ret
  exact ⟨rfl, below_next (by go_grown) hb1⟩
theorem combos (a c d z : Bool) (h1 : a = true → c = true) (h2 : a = true → d = true) (h3 : z = true → a = true) :
    (a = true ∧ c = true ∧ d = true) ∨ (a = false ∧ z = false) := by
  cases a
  · exact .inr ⟨rfl, by cases z; rfl; exact absurd (h3 rfl) (by decide)⟩
  · exact .inl ⟨rfl, h1 rfl, h2 rfl⟩
theorem wn_line {mi si wn mn esc : Bool} {n : Nat} {line l l2 : Int} (h : l ≤ l2) (ht : wnB mi si wn mn n line l esc = true) : wnB mi si wn mn n line l2 esc = true := by
  unfold wnB at *
  cases mn
  · simp only [Bool.false_or, Bool.and_eq_true, Bool.or_eq_true, decide_eq_true_eq] at *
    obtain ⟨h1, h2, h3⟩ := ht
    exact ⟨h1, h2, h3.imp id (by omega)⟩
  · rfl
theorem wn_esc {mi si wn mn esc : Bool} {n : Nat} {line l : Int} (ht : wnB mi si wn mn n line l esc = true) : wnB mi si wn mn n line l false = true := by
  unfold wnB at *
  cases mn
  · simp only [Bool.false_or, Bool.and_eq_true, Bool.or_eq_true, decide_eq_true_eq, Bool.false_and, Bool.not_false, true_and] at *
    exact ⟨ht.1, ht.2.2⟩
  · rfl
theorem line_of (l : Int) : lineOf (l * 16384) = l := by unfold lineOf; omega

set_option maxRecDepth 100000 in
set_option maxHeartbeats 2000000 in
theorem main (x y z u : Bool) (n : Nat) (l a6 a7 : Int) (esc : Bool) (w : World) (hn : n ≤ 255) (b5 : 0 ≤ l ∧ l ≤ 18446744073709551615) (b6 : 0 ≤ a6 ∧ a6 ≤ 262143) (b7 : 0 ≤ a7 ∧ a7 ≤ 262143) :
    Calls Try.prog 5 #[.bool x, .bool y, .bool z, .bool u, .int .u8 n, .int .u64 l, .int .u32 a6, .int .u32 a7, .bool esc] w fun e w' => e = .returned (.bool true) ∧ Below w.heap.size w w' := by
  by_cases hs : a7 < a6
  · obtain ⟨ba, ea⟩ : ∃ ba, wnB y x z u n l (lineOf (a7 * 16384)) esc = ba := ⟨_, rfl⟩
    obtain ⟨bc, ec⟩ : ∃ bc, wnB y x z u n l (lineOf (a6 * 16384)) esc = bc := ⟨_, rfl⟩
    obtain ⟨bd, ed⟩ : ∃ bd, wnB y x z u n l (lineOf (a7 * 16384)) false = bd := ⟨_, rfl⟩
    obtain ⟨bz, ez⟩ : ∃ bz, wnB y x z u n l (lineOf 0) esc = bz := ⟨_, rfl⟩
    have hc := combos ba bc bd bz (fun h => by rw [← ec]; rw [h] at ea; exact wn_line (by rw [line_of, line_of]; omega) ea) (fun h => by rw [← ed]; rw [h] at ea; exact wn_esc ea) (fun h => by rw [← ea]; rw [h] at ez; exact wn_line (by rw [line_of]; simp [lineOf]; omega) ez)
    have EA := Lib.hid ea
    have EC := Lib.hid ec
    have ED := Lib.hid ed
    have EZ := Lib.hid ez
    have HC := Lib.hid hc
    clear ea ec ed ez hc
    go_enter Try.func5, Try.ntmps5
    go_wp2_with fail
    refine (npf_any x y z u n l _ hn).mono ?_
    rintro e w1 ⟨p, c, rfl, hP, hb1⟩
    have HP := Lib.hid hP
    have H1 := Lib.hid hb1
    clear hP hb1
    go_wp2_with (go_at_call 20; go_in)
    refine (cwn_is y x z u esc n l _ _ c p ba _ EA (HP.out.below (by go_grown)) (by omega)).mono ?_
    rintro e w2 ⟨rfl, hb2⟩
    have hB := below_next (show Below w1.heap.size w1 _ by go_grown) hb2
    have HP := Lib.hid (HP.out.below hB)
    have H2 := Lib.hid (below_next H1.out hB)
    clear hB hb2 H1
    go_wp2_with (go_at_call 20; go_in)
    refine (cwn_is y x z u esc n l _ _ c p bc _ EC (HP.out.below (by go_grown)) (by omega)).mono ?_
    rintro e w3 ⟨rfl, hb3⟩
    have hB := below_next (show Below w2.heap.size w2 _ by go_grown) hb3
    have HP := Lib.hid (HP.out.below hB)
    have H3 := Lib.hid (below_next H2.out hB)
    clear hB hb3 H2
    go_wp2_with (go_at_call 20; go_in)
    refine (cwn_is y x z u false n l _ _ c p bd _ ED (HP.out.below (by go_grown)) (by omega)).mono ?_
    rintro e w4 ⟨rfl, hb4⟩
    have hB := below_next (show Below w3.heap.size w3 _ by go_grown) hb4
    have HP := Lib.hid (HP.out.below hB)
    have H4 := Lib.hid (below_next H3.out hB)
    clear hB hb4 H3
    go_wp2_with (go_at_call 20; go_in)
    refine (cwn_is y x z u esc n l _ _ c p bz _ EZ (HP.out.below (by go_grown)) (by omega)).mono ?_
    rintro e w5 ⟨rfl, hb5⟩
    have hB := below_next (show Below w4.heap.size w4 _ by go_grown) hb5
    have H5 := Lib.hid (below_next H4.out hB)
    clear hB hb5 H4 HP
    rcases HC.out with ⟨rfl, rfl, rfl⟩ | ⟨rfl, rfl⟩
    · cases bz
      all_goals
        go_wp2_with fail
        go_ret
        exact ⟨rfl, H5.out⟩
    · go_wp2_with fail
      go_ret
      exact ⟨rfl, H5.out⟩
  · obtain ⟨ba, ea⟩ : ∃ ba, wnB y x z u n l (lineOf (a6 * 16384)) esc = ba := ⟨_, rfl⟩
    obtain ⟨bc, ec⟩ : ∃ bc, wnB y x z u n l (lineOf (a7 * 16384)) esc = bc := ⟨_, rfl⟩
    obtain ⟨bd, ed⟩ : ∃ bd, wnB y x z u n l (lineOf (a6 * 16384)) false = bd := ⟨_, rfl⟩
    obtain ⟨bz, ez⟩ : ∃ bz, wnB y x z u n l (lineOf 0) esc = bz := ⟨_, rfl⟩
    have hc := combos ba bc bd bz (fun h => by rw [← ec]; rw [h] at ea; exact wn_line (by rw [line_of, line_of]; omega) ea) (fun h => by rw [← ed]; rw [h] at ea; exact wn_esc ea) (fun h => by rw [← ea]; rw [h] at ez; exact wn_line (by rw [line_of]; simp [lineOf]; omega) ez)
    have EA := Lib.hid ea
    have EC := Lib.hid ec
    have ED := Lib.hid ed
    have EZ := Lib.hid ez
    have HC := Lib.hid hc
    clear ea ec ed ez hc
    go_enter Try.func5, Try.ntmps5
    go_wp2_with fail
    refine (npf_any x y z u n l _ hn).mono ?_
    rintro e w1 ⟨p, c, rfl, hP, hb1⟩
    have HP := Lib.hid hP
    have H1 := Lib.hid hb1
    clear hP hb1
    go_wp2_with (go_at_call 20; go_in)
    refine (cwn_is y x z u esc n l _ _ c p ba _ EA (HP.out.below (by go_grown)) (by omega)).mono ?_
    rintro e w2 ⟨rfl, hb2⟩
    have hB := below_next (show Below w1.heap.size w1 _ by go_grown) hb2
    have HP := Lib.hid (HP.out.below hB)
    have H2 := Lib.hid (below_next H1.out hB)
    clear hB hb2 H1
    go_wp2_with (go_at_call 20; go_in)
    refine (cwn_is y x z u esc n l _ _ c p bc _ EC (HP.out.below (by go_grown)) (by omega)).mono ?_
    rintro e w3 ⟨rfl, hb3⟩
    have hB := below_next (show Below w2.heap.size w2 _ by go_grown) hb3
    have HP := Lib.hid (HP.out.below hB)
    have H3 := Lib.hid (below_next H2.out hB)
    clear hB hb3 H2
    go_wp2_with (go_at_call 20; go_in)
    refine (cwn_is y x z u false n l _ _ c p bd _ ED (HP.out.below (by go_grown)) (by omega)).mono ?_
    rintro e w4 ⟨rfl, hb4⟩
    have hB := below_next (show Below w3.heap.size w3 _ by go_grown) hb4
    have HP := Lib.hid (HP.out.below hB)
    have H4 := Lib.hid (below_next H3.out hB)
    clear hB hb4 H3
    go_wp2_with (go_at_call 20; go_in)
    refine (cwn_is y x z u esc n l _ _ c p bz _ EZ (HP.out.below (by go_grown)) (by omega)).mono ?_
    rintro e w5 ⟨rfl, hb5⟩
    have hB := below_next (show Below w4.heap.size w4 _ by go_grown) hb5
    have H5 := Lib.hid (below_next H4.out hB)
    clear hB hb5 H4 HP
    rcases HC.out with ⟨rfl, rfl, rfl⟩ | ⟨rfl, rfl⟩
    · cases bz
      all_goals
        go_wp2_with fail
        go_ret
        exact ⟨rfl, H5.out⟩
    · go_wp2_with fail
      go_ret
      exact ⟨rfl, H5.out⟩

set_option maxRecDepth 100000 in
set_option maxHeartbeats 1000000 in
theorem walk (a0 : Bool) (a1 : Bool) (a2 : Bool) (a3 : Bool) (a4 : Int) (a5 : Int) (a6 : Int) (a7 : Int) (a8 : Bool) (w : World) (w4 : (Lit.int .u8 a4).wf = true) (w5 : (Lit.int .u64 a5).wf = true) (w6 : (Lit.int .u32 a6).wf = true) (w7 : (Lit.int .u32 a7).wf = true) :
    Calls Try.prog 5 #[.bool a0, .bool a1, .bool a2, .bool a3, .int .u8 a4, .int .u64 a5, .int .u32 a6, .int .u32 a7, .bool a8] w fun e w' => e = .returned (.bool true) ∧ Below w.heap.size w w' := by
  have b4 := bounds_u8 w4
  have b5 := bounds_u64 w5
  have b6 := bounds_u32 w6
  have b7 := bounds_u32 w7
  clear w4 w5 w6 w7
  by_cases g1 : 262143 < a6
  · go_enter Try.func5, Try.ntmps5
    go_wp2
    go_ret
    exact ⟨rfl, by go_grown⟩
  by_cases g2 : 262143 < a7
  · go_enter Try.func5, Try.ntmps5
    go_wp2
    go_ret
    exact ⟨rfl, by go_grown⟩
  obtain ⟨n, rfl⟩ := Int.eq_ofNat_of_zero_le b4.1
  exact main a0 a1 a2 a3 n a5 a6 a7 a8 w (by omega) b5 (by omega) (by omega)
end Go.Proofs.Ythmbphgpkpjopaa.fnWantsNewlineMonotone
