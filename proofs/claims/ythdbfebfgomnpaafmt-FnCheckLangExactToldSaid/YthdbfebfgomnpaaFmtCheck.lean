/- checkLang: what it leaves. Conditions: the parser's cells. -/
import Derived.Test.YthdbfebfgomnpaaFmtSpr
import Derived.Test.YthdbfebfgomnpaaFmtSets
namespace Go.Proofs.YthdbfebfgomnpaaFmt
open Go.RowKit
set_option linter.unusedVariables false
set_option linter.unusedSimpArgs false

/-- between checkLang's steps: the parser, and the position in its box -/
structure CK (w : World) (P f : Nat) (L o lc : Int) (err : Value) (tok : Int) (W : World) : Prop where
  lp : LP W P f L err tok
  p0 : W.cell? ⟨w.heap.size, 0, none⟩ = some (.int .u32 o)
  p1 : W.cell? ⟨w.heap.size, 1, none⟩ = some (.int .u32 lc)
  below : Below P w W
  lt : P < w.heap.size
theorem CK.z {w W : World} {P f : Nat} {L o lc tok : Int} {err : Value} (h : CK w P f L o lc err tok W) : w.heap.size < W.heap.size := by
  have := World.block_lt_of_cell? _ _ h.p0
  simpa using this
theorem CK.next {w W W' : World} {P f : Nat} {L o lc tok : Int} {err : Value} (h : CK w P f L o lc err tok W) (hb : Below W.heap.size W W') : CK w P f L o lc err tok W' :=
  have hz := h.z
  have hlt := h.lt
  ⟨h.lp.below hb (by omega), (hb.cell (p := ⟨w.heap.size, 0, none⟩) hz).trans h.p0, (hb.cell (p := ⟨w.heap.size, 1, none⟩) hz).trans h.p1, h.below.trans (hb.mono (by omega)), h.lt⟩
theorem CK.start (w : World) (P f : Nat) (L o lc tok : Int) (err : Value) (h : LP w P f L err tok) : CK w P f L o lc err tok (w.alloc (.cells #[.int .u32 o, .int .u32 lc] 25)) := by
  have z := World.block_lt_of_cell? _ _ h.c7
  simp only at z
  have hb : Below w.heap.size w (w.alloc (.cells #[.int .u32 o, .int .u32 lc] 25)) := by go_grown
  exact ⟨h.below hb z, World.cell?_alloc_new _ _ _ _, World.cell?_alloc_new _ _ _ _, hb.mono (by omega), z⟩
theorem cell_other {w w' : World} {P : Nat} (hg : w.grownBy w' (some P)) {p : Addr} (hp : p.block < w.heap.size) (hne : p.block ≠ P) : w'.cell? p = w.cell? p := by
  unfold World.cell?
  rw [hg.block p.block hp (by simp; exact hne)]
theorem base_le0 {W : World} {b b' : Nat} {e : TypeId} {size : Nat} {v : Value} {k : Nat} {xs : List Value} (h : W.ownsRow b e size v k xs) (hb : b' ≤ b) : W.ownsRow b' e size v k xs := by
  refine ⟨h.1, ?_⟩
  rcases h.2 with h' | ⟨g, cap, cur, hv, hg, rest⟩
  · exact .inl h'
  · exact .inr ⟨g, cap, cur, hv, Nat.le_trans hb hg, rest⟩
theorem below_drew1 (W : World) : Below W.heap.size W W.drew := ⟨rfl, rfl, rfl, Nat.le_refl _, fun _ _ => rfl⟩

set_option maxRecDepth 100000 in
set_option maxHeartbeats 2000000 in
theorem cl_yes (P f : Nat) (L o lc s tok : Int) (err : Value) (w : World) (h : LP w P f L err tok) (hin : (Go.bits .and .i64 L s == L) = true) :
    Calls Tryf.prog 12 #[.pointer (some ⟨P, 0, none⟩), .agg #[.int .u32 o, .int .u32 lc], .int .i64 s, .string ⟨#[102, 101, 97, 116, 117, 114, 101]⟩, .slice none 0 0] w fun e w' => e = .returned (.tuple #[]) ∧ LP w' P f L err tok ∧ Below w.heap.size w w' := by
  have c20 := h.c20
  have z := World.block_lt_of_cell? _ _ c20
  simp only at z
  have H := Lib.hid h
  go_enter Tryf.func12, Tryf.ntmps12
  go_wp2_with fail
  refine (in_any _ _ _).mono ?_
  rintro e w' ⟨rfl, rfl⟩
  rw [hin]
  have hB : Below w.heap.size w (w.alloc (.cells #[.int .u32 o, .int .u32 lc] 25)) := by go_grown
  go_wp2_with fail
  refine bodyPost_ret (results_none rfl _ _ _) rfl ?_
  exact ⟨rfl, H.out.below hB z, hB⟩

theorem wp_gen0 {P : Program} {c : Code} {Q : Exit → Act → World → Prop} {a : Act} {W : World} (R : World → Prop) (h : R W) (k : ∀ W', R W' → c.wp P Q a W') : c.wp P Q a W := k W h

set_option maxRecDepth 1000000 in
set_option maxHeartbeats 8000000 in
theorem cl_no0 (P f : Nat) (L o lc s : Int) (w : World) (h : LP w P f L .nilIface 0) (hin : (Go.bits .and .i64 L s == L) = false) (h9 : (Go.bits .and .i64 9 s == 9) = false) :
    Calls Tryf.prog 12 #[.pointer (some ⟨P, 0, none⟩), .agg #[.int .u32 o, .int .u32 lc], .int .i64 s, .string ⟨#[102, 101, 97, 116, 117, 114, 101]⟩, .slice none 0 0] w fun e w' => e = .returned (.tuple #[]) ∧ ∃ t va vn vc, LP w' P f L (.iface 34 (leV o lc t (.slice va vn vc) L)) 1 ∧ w'.ownsRow w.heap.size 29 1 (.slice va vn vc) (bitsTo s 5).length ((bitsTo s 5).map encZ) ∧ Below P w w' := by
  have d20 := h.c20
  have zw := World.block_lt_of_cell? _ _ d20
  simp only at zw
  have H0 := Lib.hid (CK.start w P f L o lc 0 .nilIface h)
  clear h
  go_enter Tryf.func12, Tryf.ntmps12
  go_wp2_with fail
  refine (in_any _ _ _).mono ?_
  rintro e w' ⟨rfl, rfl⟩
  rw [hin]
  go_wp2_with fail
  refine (in_any _ _ _).mono ?_
  rintro e w' ⟨rfl, rfl⟩
  rw [h9]
  go_wp2_with fail
  refine wp_gen0 (fun U => CK w P f L o lc .nilIface 0 U) H0.out ?_
  clear H0 d20 zw
  intro U hU
  have H1 := Lib.hid (hU.next (below_drew1 U))
  clear hU
  obtain ⟨c5, n0, p0, p1, c20⟩ : _ ∧ _ ∧ _ ∧ _ ∧ _ := ⟨H1.out.lp.c5, H1.out.lp.n0, H1.out.p0, H1.out.p1, H1.out.lp.c20⟩
  have z := H1.out.z
  have zP := H1.out.lt
  refine wp_region_noPanic ?_
  refine wp_region_held_drew (S := (fun U9 => U9.cell? ⟨P, 5, none⟩ = some (.pointer (some ⟨f, 0, none⟩)) ∧ U9.cell? ⟨f, 0, none⟩ = some (.string ⟨#[]⟩) ∧ U9.cell? ⟨w.heap.size, 0, none⟩ = some (.int .u32 o) ∧ U9.cell? ⟨w.heap.size, 1, none⟩ = some (.int .u32 lc) ∧ U9.cell? ⟨P, 20, none⟩ = some (.int .i64 L))) (by kernel_rfl) ⟨c5, n0, p0, p1, c20⟩ (fun hHeld => ?_)
  refine wpAnyH_take (i := 0) (oi := ?_) (v := ?_) ?_ (by kernel_rfl) (by kernel_rfl) (by kernel_rfl) (fun _ _ _ h => h) (Or.inl ⟨?_, ?_⟩) (by assumption) ?_
  rotate_left 2
  · (simp only [List.getElem?_toArray, List.getElem?_cons_zero]; try rfl)
  · rfl
  · (intro W9 hSw; (try dsimp only at hSw); first | (go_simp; done) | (go_simp; with_reducible rfl))
  simp only [Act.put, List.setIfInBounds_toArray, List.set_cons_zero, List.set_cons_succ]
  refine wpAnyH_take (i := 1) (oi := ?_) (v := ?_) ?_ (by kernel_rfl) (by kernel_rfl) (by kernel_rfl) (fun _ _ _ h => h) (Or.inl ⟨?_, ?_⟩) (by assumption) ?_
  rotate_left 2
  · (simp only [List.getElem?_toArray, List.getElem?_cons_succ, List.getElem?_cons_zero]; try rfl)
  · rfl
  · (intro W9 hSw; (try dsimp only at hSw); first | (go_simp; done) | (go_simp; with_reducible rfl))
  simp only [Act.put, List.setIfInBounds_toArray, List.set_cons_zero, List.set_cons_succ]
  refine wpAnyH_take (i := 2) (oi := ?_) (v := ?_) ?_ (by kernel_rfl) (by kernel_rfl) (by kernel_rfl) (fun _ _ _ h => h) (Or.inl ⟨?_, ?_⟩) (by assumption) ?_
  rotate_left 2
  · (simp only [List.getElem?_toArray, List.getElem?_cons_succ, List.getElem?_cons_zero]; try rfl)
  · rfl
  · (intro W9 hSw; (try dsimp only at hSw); first | (go_simp; done) | (go_simp; with_reducible rfl))
  simp only [Act.put, List.setIfInBounds_toArray, List.set_cons_zero, List.set_cons_succ]
  refine wpAnyH_take (i := 3) (oi := ?_) (v := ?_) ?_ (by kernel_rfl) (by kernel_rfl) (by kernel_rfl) (fun _ _ _ h => h) (Or.inl ⟨?_, ?_⟩) (by assumption) ?_
  rotate_left 2
  · (simp only [List.getElem?_toArray, List.getElem?_cons_succ, List.getElem?_cons_zero]; try rfl)
  · rfl
  · (intro W9 hSw; (try dsimp only at hSw); first | (go_simp; done) | (go_simp; with_reducible rfl))
  simp only [Act.put, List.setIfInBounds_toArray, List.set_cons_zero, List.set_cons_succ]
  refine wpAnyH_take (i := 4) (oi := ?_) (v := ?_) ?_ (by kernel_rfl) (by kernel_rfl) (by kernel_rfl) (fun _ _ _ h => h) (Or.inl ⟨?_, ?_⟩) (by assumption) ?_
  rotate_left 2
  · (simp only [List.getElem?_toArray, List.getElem?_cons_succ, List.getElem?_cons_zero]; try rfl)
  · rfl
  · (intro W9 hSw; (try dsimp only at hSw); first | (go_simp; done) | (go_simp; with_reducible rfl))
  simp only [Act.put, List.setIfInBounds_toArray, List.set_cons_zero, List.set_cons_succ]
  refine wpAnyH_take (i := 5) (oi := ?_) (v := ?_) ?_ (by kernel_rfl) (by kernel_rfl) (by kernel_rfl) (fun _ _ _ h => h) (Or.inl ⟨?_, ?_⟩) (by assumption) ?_
  rotate_left 2
  · (simp only [List.getElem?_toArray, List.getElem?_cons_succ, List.getElem?_cons_zero]; try rfl)
  · rfl
  · (intro W9 hSw; (try dsimp only at hSw); first | (go_simp; done) | (go_simp; with_reducible rfl))
  simp only [Act.put, List.setIfInBounds_toArray, List.set_cons_zero, List.set_cons_succ]
  refine wpAnyH_take (i := 6) (oi := ?_) (v := ?_) ?_ (by kernel_rfl) (by kernel_rfl) (by kernel_rfl) (fun _ _ _ h => h) (Or.inl ⟨?_, ?_⟩) (by assumption) ?_
  rotate_left 2
  · (simp only [List.getElem?_toArray, List.getElem?_cons_succ, List.getElem?_cons_zero]; try rfl)
  · rfl
  · (intro W9 hSw; (try dsimp only at hSw); first | (go_simp; done) | (go_simp; with_reducible rfl))
  simp only [Act.put, List.setIfInBounds_toArray, List.set_cons_zero, List.set_cons_succ]
  refine wpAnyH_take (i := 7) (oi := ?_) (v := ?_) ?_ (by kernel_rfl) (by kernel_rfl) (by kernel_rfl) (fun _ _ _ h => h) (Or.inl ⟨?_, ?_⟩) (by assumption) ?_
  rotate_left 2
  · (simp only [List.getElem?_toArray, List.getElem?_cons_succ, List.getElem?_cons_zero]; try rfl)
  · rfl
  · (intro W9 hSw; (try dsimp only at hSw); first | (go_simp; done) | (go_simp; with_reducible rfl))
  simp only [Act.put, List.setIfInBounds_toArray, List.set_cons_zero, List.set_cons_succ]
  refine wpAnyH_take (i := 8) (oi := ?_) (v := ?_) ?_ (by kernel_rfl) (by kernel_rfl) (by kernel_rfl) (fun _ _ _ h => h) (Or.inl ⟨?_, ?_⟩) (by assumption) ?_
  rotate_left 2
  · (simp only [List.getElem?_toArray, List.getElem?_cons_succ, List.getElem?_cons_zero]; try rfl)
  · rfl
  · (intro W9 hSw; (try dsimp only at hSw); first | (go_simp; done) | (go_simp; with_reducible rfl))
  simp only [Act.put, List.setIfInBounds_toArray, List.set_cons_zero, List.set_cons_succ]
  refine wpAnyH_take (i := 9) (oi := ?_) (v := ?_) ?_ (by kernel_rfl) (by kernel_rfl) (by kernel_rfl) (fun _ _ _ h => h) (Or.inl ⟨?_, ?_⟩) (by assumption) ?_
  rotate_left 2
  · (simp only [List.getElem?_toArray, List.getElem?_cons_succ, List.getElem?_cons_zero]; try rfl)
  · rfl
  · (intro W9 hSw; (try dsimp only at hSw); first | (go_simp; done) | (go_simp; with_reducible rfl))
  simp only [Act.put, List.setIfInBounds_toArray, List.set_cons_zero, List.set_cons_succ]
  refine wpAnyH_take (i := 10) (oi := ?_) (v := ?_) ?_ (by kernel_rfl) (by kernel_rfl) (by kernel_rfl) (fun _ _ _ h => h) (Or.inl ⟨?_, ?_⟩) (by assumption) ?_
  rotate_left 2
  · (simp only [List.getElem?_toArray, List.getElem?_cons_succ, List.getElem?_cons_zero]; try rfl)
  · rfl
  · (intro W9 hSw; (try dsimp only at hSw); first | (go_simp; done) | (go_simp; with_reducible rfl))
  simp only [Act.put, List.setIfInBounds_toArray, List.set_cons_zero, List.set_cons_succ]
  refine wpAnyH_take (i := 12) (oi := ?_) (v := ?_) ?_ (by kernel_rfl) (by kernel_rfl) (by kernel_rfl) (fun _ _ _ h => h) (Or.inl ⟨?_, ?_⟩) (by assumption) ?_
  rotate_left 2
  · (simp only [List.getElem?_toArray, List.getElem?_cons_succ, List.getElem?_cons_zero]; try rfl)
  · rfl
  · (intro W9 hSw; (try dsimp only at hSw); first | (go_simp; done) | (go_simp; with_reducible rfl))
  simp only [Act.put, List.setIfInBounds_toArray, List.set_cons_zero, List.set_cons_succ]
  refine wpAnyH_take (i := 15) (oi := ?_) (v := ?_) ?_ (by kernel_rfl) (by kernel_rfl) (by kernel_rfl) (fun _ _ _ h => h) (Or.inl ⟨?_, ?_⟩) (by assumption) ?_
  rotate_left 2
  · (simp only [List.getElem?_toArray, List.getElem?_cons_succ, List.getElem?_cons_zero]; try rfl)
  · rfl
  · (intro W9 hSw; (try dsimp only at hSw); first | (go_simp; done) | (go_simp; with_reducible rfl))
  simp only [Act.put, List.setIfInBounds_toArray, List.set_cons_zero, List.set_cons_succ]
  refine wpAnyH_take (i := 16) (oi := ?_) (v := ?_) ?_ (by kernel_rfl) (by kernel_rfl) (by kernel_rfl) (fun _ _ _ h => h) (Or.inl ⟨?_, ?_⟩) (by assumption) ?_
  rotate_left 2
  · (simp only [List.getElem?_toArray, List.getElem?_cons_succ, List.getElem?_cons_zero]; try rfl)
  · rfl
  · (intro W9 hSw; (try dsimp only at hSw); first | (go_simp; done) | (go_simp; with_reducible rfl))
  simp only [Act.put, List.setIfInBounds_toArray, List.set_cons_zero, List.set_cons_succ]
  refine wpAnyH_take (i := 17) (oi := ?_) (v := ?_) ?_ (by kernel_rfl) (by kernel_rfl) (by kernel_rfl) (fun _ _ _ h => h) (Or.inl ⟨?_, ?_⟩) (by assumption) ?_
  rotate_left 2
  · (simp only [List.getElem?_toArray, List.getElem?_cons_succ, List.getElem?_cons_zero]; try rfl)
  · rfl
  · (intro W9 hSw; (try dsimp only at hSw); first | (go_simp; done) | (go_simp; with_reducible rfl))
  simp only [Act.put, List.setIfInBounds_toArray, List.set_cons_zero, List.set_cons_succ]
  refine wpAnyH_take (i := 18) (oi := ?_) (v := ?_) ?_ (by kernel_rfl) (by kernel_rfl) (by kernel_rfl) (fun _ _ _ h => h) (Or.inl ⟨?_, ?_⟩) (by assumption) ?_
  rotate_left 2
  · (simp only [List.getElem?_toArray, List.getElem?_cons_succ, List.getElem?_cons_zero]; try rfl)
  · rfl
  · (intro W9 hSw; (try dsimp only at hSw); first | (go_simp; done) | (go_simp; with_reducible rfl))
  simp only [Act.put, List.setIfInBounds_toArray, List.set_cons_zero, List.set_cons_succ]
  refine wpAnyH_ready (rs := [11]) (by kernel_rfl) (by simp) ?_
  refine AllReadyH.cons (o := ?_) ?_ (fun K hK => ?_) AllReadyH.nil
  rotate_left 1
  · (simp only [List.getElem?_toArray, List.getElem?_cons_succ, List.getElem?_cons_zero]; try rfl)
  have hsp := spr_row
  go_simp
  refine spr_rows _ _ (fun t => ?_)
  have H2 := Lib.hid (H1.out.next (below_drew1 _))
  clear c5 n0 p0 p1 c20 z zP
  obtain ⟨c5, n0, p0, p1, c20⟩ : _ ∧ _ ∧ _ ∧ _ ∧ _ := ⟨H2.out.lp.c5, H2.out.lp.n0, H2.out.p0, H2.out.p1, H2.out.lp.c20⟩
  have z := H2.out.z
  have zP := H2.out.lt
  try go_simp
  refine hK.out _ _ ⟨c5, n0, p0, p1, c20⟩ (fun hHeld => ?_)
  clear hK K
  refine wpAnyH_ready (rs := [13]) (by kernel_rfl) (by simp) ?_
  refine AllReadyH.cons (o := ?_) ?_ (fun K hK => ?_) AllReadyH.nil
  rotate_left 1
  · (simp only [List.getElem?_toArray, List.getElem?_cons_succ, List.getElem?_cons_zero]; try rfl)
  go_simp
  refine (bits_any _ _).mono ?_
  rintro e w3 ⟨rfl, hw3⟩
  have hz3 : Below U.drew.drew.heap.size U.drew.drew w3 := by rw [hw3]; exact (Below.refl _ _).alloc (Nat.le_refl _) _
  have hc3 : w3.cell? ⟨U.drew.drew.heap.size, 0, none⟩ = some (.int .i64 s) := by rw [hw3]; exact World.cell?_alloc_new _ _ _ _
  have hs3 : U.drew.drew.heap.size < w3.heap.size := by rw [hw3]; simp
  clear hw3
  have H3 := Lib.hid (H2.out.next hz3)
  clear hz3
  clear c5 n0 p0 p1 c20 z zP
  obtain ⟨c5, n0, p0, p1, c20⟩ : _ ∧ _ ∧ _ ∧ _ ∧ _ := ⟨H3.out.lp.c5, H3.out.lp.n0, H3.out.p0, H3.out.p1, H3.out.lp.c20⟩
  have z := H3.out.z
  have zP := H3.out.lt
  try go_simp
  refine hK.out _ _ ⟨c5, n0, p0, p1, c20⟩ (fun hHeld => ?_)
  clear hK K
  refine wpAnyH_ready (rs := [14]) (by kernel_rfl) (by simp) ?_
  refine AllReadyH.cons (o := ?_) ?_ (fun K hK => ?_) AllReadyH.nil
  rotate_left 1
  · (simp only [List.getElem?_toArray, List.getElem?_cons_succ, List.getElem?_cons_zero]; try rfl)
  go_simp
  refine (coll_any s _ _ hs3 hc3).mono ?_
  rintro e w4 ⟨v, rfl, hrow, hb4⟩
  have H4 := Lib.hid (H3.out.next hb4)
  obtain ⟨va, vn, vc, rfl⟩ : ∃ va vn vc, v = .slice va vn vc := by
    rcases hrow.2 with ⟨h, _⟩ | ⟨g, c, cur, h, _⟩
    · exact ⟨_, _, _, h⟩
    · exact ⟨_, _, _, h⟩
  have HR := Lib.hid (And.intro hrow (And.intro hb4.size H3.out.z))
  clear hrow hb4 hs3 hc3
  clear c5 n0 p0 p1 c20 z zP
  obtain ⟨c5, n0, p0, p1, c20⟩ : _ ∧ _ ∧ _ ∧ _ ∧ _ := ⟨H4.out.lp.c5, H4.out.lp.n0, H4.out.p0, H4.out.p1, H4.out.lp.c20⟩
  have z := H4.out.z
  have zP := H4.out.lt
  try go_simp
  refine hK.out _ _ ⟨c5, n0, p0, p1, c20⟩ (fun hHeld => ?_)
  clear hK K
  refine wpAnyH_take (i := 19) (oi := ?_) (v := ?_) ?_ (by kernel_rfl) (by kernel_rfl) (by kernel_rfl) (fun _ _ _ h => h) (Or.inl ⟨?_, ?_⟩) (by assumption) ?_
  rotate_left 2
  · (simp only [List.getElem?_toArray, List.getElem?_cons_succ, List.getElem?_cons_zero]; try rfl)
  · rfl
  · (intro W9 hSw; (try dsimp only at hSw); first | (go_simp; done) | (go_simp; with_reducible rfl))
  simp only [Act.put, List.setIfInBounds_toArray, List.set_cons_zero, List.set_cons_succ]
  refine wpAnyH_take (i := 20) (oi := ?_) (v := ?_) ?_ (by kernel_rfl) (by kernel_rfl) (by kernel_rfl) (fun _ _ _ h => h) (Or.inl ⟨?_, ?_⟩) (by assumption) ?_
  rotate_left 2
  · (simp only [List.getElem?_toArray, List.getElem?_cons_succ, List.getElem?_cons_zero]; try rfl)
  · rfl
  · (intro W9 hSw; (try dsimp only at hSw); first | (go_simp; done) | (go_simp; with_reducible rfl))
  simp only [Act.put, List.setIfInBounds_toArray, List.set_cons_zero, List.set_cons_succ]
  refine wpAnyH_ready (rs := [21]) (by kernel_rfl) (by simp) ?_
  refine AllReadyH.cons (o := ?_) ?_ (fun K hK => ?_) AllReadyH.nil
  rotate_left 1
  · (simp only [List.getElem?_toArray, List.getElem?_cons_succ, List.getElem?_cons_zero]; try rfl)
  go_simp
  refine (ep_any P f L _ _ H4.out.lp).mono ?_
  rintro e w5 ⟨rfl, hlp, hb5, hg5⟩
  have q0 : w5.cell? ⟨w.heap.size, 0, none⟩ = some (.int .u32 o) := (cell_other hg5 (p := ⟨w.heap.size, 0, none⟩) z (by simp; omega)).trans p0
  have q1 : w5.cell? ⟨w.heap.size, 1, none⟩ = some (.int .u32 lc) := (cell_other hg5 (p := ⟨w.heap.size, 1, none⟩) z (by simp; omega)).trans p1
  have hr5 := HR.out.1.kept hg5 (Or.inr (fun e => by have := (HR.out.1.lt _ e).1; have := HR.out.2.2; omega))
  have hB5 : Below P w w5 := H4.out.below.trans hb5
  have HF := Lib.hid (And.intro hlp (And.intro hr5 (And.intro hB5 (Nat.le_of_lt HR.out.2.2))))
  clear hr5 hB5 hb5 hg5 HR
  try go_simp
  refine hK.out _ _ ⟨HF.out.1.c5, HF.out.1.n0, q0, q1, HF.out.1.c20⟩ (fun hHeld => ?_)
  clear hK K hlp
  refine wpAnyH_done (by kernel_rfl) ?_ _
  refine NoPanic.normal ?_
  go_wp2_with fail
  go_end0
  exact ⟨rfl, t, va, vn, vc, HF.out.1, base_le0 HF.out.2.1 HF.out.2.2.2, HF.out.2.2.1⟩
set_option maxRecDepth 1000000 in
set_option maxHeartbeats 8000000 in
theorem cl_no1 (P f : Nat) (L o lc s : Int) (w : World) (h : LP w P f L .nilIface 0) (hin : (Go.bits .and .i64 L s == L) = false) (h9 : (Go.bits .and .i64 9 s == 9) = true) :
    Calls Tryf.prog 12 #[.pointer (some ⟨P, 0, none⟩), .agg #[.int .u32 o, .int .u32 lc], .int .i64 s, .string ⟨#[102, 101, 97, 116, 117, 114, 101]⟩, .slice none 0 0] w fun e w' => e = .returned (.tuple #[]) ∧ ∃ t va vn vc, LP w' P f L (.iface 34 (leV o lc t (.slice va vn vc) L)) 1 ∧ w'.ownsRow w.heap.size 29 1 (.slice va vn vc) (bitsTo (Go.bits .andNot .i64 s 8) 5).length ((bitsTo (Go.bits .andNot .i64 s 8) 5).map encZ) ∧ Below P w w' := by
  have d20 := h.c20
  have zw := World.block_lt_of_cell? _ _ d20
  simp only at zw
  have H0 := Lib.hid (CK.start w P f L o lc 0 .nilIface h)
  clear h
  go_enter Tryf.func12, Tryf.ntmps12
  go_wp2_with fail
  refine (in_any _ _ _).mono ?_
  rintro e w' ⟨rfl, rfl⟩
  rw [hin]
  go_wp2_with fail
  refine (in_any _ _ _).mono ?_
  rintro e w' ⟨rfl, rfl⟩
  rw [h9]
  go_wp2_with fail
  refine wp_gen0 (fun U => CK w P f L o lc .nilIface 0 U) H0.out ?_
  clear H0 d20 zw
  intro U hU
  have H1 := Lib.hid (hU.next (below_drew1 U))
  clear hU
  obtain ⟨c5, n0, p0, p1, c20⟩ : _ ∧ _ ∧ _ ∧ _ ∧ _ := ⟨H1.out.lp.c5, H1.out.lp.n0, H1.out.p0, H1.out.p1, H1.out.lp.c20⟩
  have z := H1.out.z
  have zP := H1.out.lt
  refine wp_region_noPanic ?_
  refine wp_region_held_drew (S := (fun U9 => U9.cell? ⟨P, 5, none⟩ = some (.pointer (some ⟨f, 0, none⟩)) ∧ U9.cell? ⟨f, 0, none⟩ = some (.string ⟨#[]⟩) ∧ U9.cell? ⟨w.heap.size, 0, none⟩ = some (.int .u32 o) ∧ U9.cell? ⟨w.heap.size, 1, none⟩ = some (.int .u32 lc) ∧ U9.cell? ⟨P, 20, none⟩ = some (.int .i64 L))) (by kernel_rfl) ⟨c5, n0, p0, p1, c20⟩ (fun hHeld => ?_)
  refine wpAnyH_take (i := 0) (oi := ?_) (v := ?_) ?_ (by kernel_rfl) (by kernel_rfl) (by kernel_rfl) (fun _ _ _ h => h) (Or.inl ⟨?_, ?_⟩) (by assumption) ?_
  rotate_left 2
  · (simp only [List.getElem?_toArray, List.getElem?_cons_zero]; try rfl)
  · rfl
  · (intro W9 hSw; (try dsimp only at hSw); first | (go_simp; done) | (go_simp; with_reducible rfl))
  simp only [Act.put, List.setIfInBounds_toArray, List.set_cons_zero, List.set_cons_succ]
  refine wpAnyH_take (i := 1) (oi := ?_) (v := ?_) ?_ (by kernel_rfl) (by kernel_rfl) (by kernel_rfl) (fun _ _ _ h => h) (Or.inl ⟨?_, ?_⟩) (by assumption) ?_
  rotate_left 2
  · (simp only [List.getElem?_toArray, List.getElem?_cons_succ, List.getElem?_cons_zero]; try rfl)
  · rfl
  · (intro W9 hSw; (try dsimp only at hSw); first | (go_simp; done) | (go_simp; with_reducible rfl))
  simp only [Act.put, List.setIfInBounds_toArray, List.set_cons_zero, List.set_cons_succ]
  refine wpAnyH_take (i := 2) (oi := ?_) (v := ?_) ?_ (by kernel_rfl) (by kernel_rfl) (by kernel_rfl) (fun _ _ _ h => h) (Or.inl ⟨?_, ?_⟩) (by assumption) ?_
  rotate_left 2
  · (simp only [List.getElem?_toArray, List.getElem?_cons_succ, List.getElem?_cons_zero]; try rfl)
  · rfl
  · (intro W9 hSw; (try dsimp only at hSw); first | (go_simp; done) | (go_simp; with_reducible rfl))
  simp only [Act.put, List.setIfInBounds_toArray, List.set_cons_zero, List.set_cons_succ]
  refine wpAnyH_take (i := 3) (oi := ?_) (v := ?_) ?_ (by kernel_rfl) (by kernel_rfl) (by kernel_rfl) (fun _ _ _ h => h) (Or.inl ⟨?_, ?_⟩) (by assumption) ?_
  rotate_left 2
  · (simp only [List.getElem?_toArray, List.getElem?_cons_succ, List.getElem?_cons_zero]; try rfl)
  · rfl
  · (intro W9 hSw; (try dsimp only at hSw); first | (go_simp; done) | (go_simp; with_reducible rfl))
  simp only [Act.put, List.setIfInBounds_toArray, List.set_cons_zero, List.set_cons_succ]
  refine wpAnyH_take (i := 4) (oi := ?_) (v := ?_) ?_ (by kernel_rfl) (by kernel_rfl) (by kernel_rfl) (fun _ _ _ h => h) (Or.inl ⟨?_, ?_⟩) (by assumption) ?_
  rotate_left 2
  · (simp only [List.getElem?_toArray, List.getElem?_cons_succ, List.getElem?_cons_zero]; try rfl)
  · rfl
  · (intro W9 hSw; (try dsimp only at hSw); first | (go_simp; done) | (go_simp; with_reducible rfl))
  simp only [Act.put, List.setIfInBounds_toArray, List.set_cons_zero, List.set_cons_succ]
  refine wpAnyH_take (i := 5) (oi := ?_) (v := ?_) ?_ (by kernel_rfl) (by kernel_rfl) (by kernel_rfl) (fun _ _ _ h => h) (Or.inl ⟨?_, ?_⟩) (by assumption) ?_
  rotate_left 2
  · (simp only [List.getElem?_toArray, List.getElem?_cons_succ, List.getElem?_cons_zero]; try rfl)
  · rfl
  · (intro W9 hSw; (try dsimp only at hSw); first | (go_simp; done) | (go_simp; with_reducible rfl))
  simp only [Act.put, List.setIfInBounds_toArray, List.set_cons_zero, List.set_cons_succ]
  refine wpAnyH_take (i := 6) (oi := ?_) (v := ?_) ?_ (by kernel_rfl) (by kernel_rfl) (by kernel_rfl) (fun _ _ _ h => h) (Or.inl ⟨?_, ?_⟩) (by assumption) ?_
  rotate_left 2
  · (simp only [List.getElem?_toArray, List.getElem?_cons_succ, List.getElem?_cons_zero]; try rfl)
  · rfl
  · (intro W9 hSw; (try dsimp only at hSw); first | (go_simp; done) | (go_simp; with_reducible rfl))
  simp only [Act.put, List.setIfInBounds_toArray, List.set_cons_zero, List.set_cons_succ]
  refine wpAnyH_take (i := 7) (oi := ?_) (v := ?_) ?_ (by kernel_rfl) (by kernel_rfl) (by kernel_rfl) (fun _ _ _ h => h) (Or.inl ⟨?_, ?_⟩) (by assumption) ?_
  rotate_left 2
  · (simp only [List.getElem?_toArray, List.getElem?_cons_succ, List.getElem?_cons_zero]; try rfl)
  · rfl
  · (intro W9 hSw; (try dsimp only at hSw); first | (go_simp; done) | (go_simp; with_reducible rfl))
  simp only [Act.put, List.setIfInBounds_toArray, List.set_cons_zero, List.set_cons_succ]
  refine wpAnyH_take (i := 8) (oi := ?_) (v := ?_) ?_ (by kernel_rfl) (by kernel_rfl) (by kernel_rfl) (fun _ _ _ h => h) (Or.inl ⟨?_, ?_⟩) (by assumption) ?_
  rotate_left 2
  · (simp only [List.getElem?_toArray, List.getElem?_cons_succ, List.getElem?_cons_zero]; try rfl)
  · rfl
  · (intro W9 hSw; (try dsimp only at hSw); first | (go_simp; done) | (go_simp; with_reducible rfl))
  simp only [Act.put, List.setIfInBounds_toArray, List.set_cons_zero, List.set_cons_succ]
  refine wpAnyH_take (i := 9) (oi := ?_) (v := ?_) ?_ (by kernel_rfl) (by kernel_rfl) (by kernel_rfl) (fun _ _ _ h => h) (Or.inl ⟨?_, ?_⟩) (by assumption) ?_
  rotate_left 2
  · (simp only [List.getElem?_toArray, List.getElem?_cons_succ, List.getElem?_cons_zero]; try rfl)
  · rfl
  · (intro W9 hSw; (try dsimp only at hSw); first | (go_simp; done) | (go_simp; with_reducible rfl))
  simp only [Act.put, List.setIfInBounds_toArray, List.set_cons_zero, List.set_cons_succ]
  refine wpAnyH_take (i := 10) (oi := ?_) (v := ?_) ?_ (by kernel_rfl) (by kernel_rfl) (by kernel_rfl) (fun _ _ _ h => h) (Or.inl ⟨?_, ?_⟩) (by assumption) ?_
  rotate_left 2
  · (simp only [List.getElem?_toArray, List.getElem?_cons_succ, List.getElem?_cons_zero]; try rfl)
  · rfl
  · (intro W9 hSw; (try dsimp only at hSw); first | (go_simp; done) | (go_simp; with_reducible rfl))
  simp only [Act.put, List.setIfInBounds_toArray, List.set_cons_zero, List.set_cons_succ]
  refine wpAnyH_take (i := 12) (oi := ?_) (v := ?_) ?_ (by kernel_rfl) (by kernel_rfl) (by kernel_rfl) (fun _ _ _ h => h) (Or.inl ⟨?_, ?_⟩) (by assumption) ?_
  rotate_left 2
  · (simp only [List.getElem?_toArray, List.getElem?_cons_succ, List.getElem?_cons_zero]; try rfl)
  · rfl
  · (intro W9 hSw; (try dsimp only at hSw); first | (go_simp; done) | (go_simp; with_reducible rfl))
  simp only [Act.put, List.setIfInBounds_toArray, List.set_cons_zero, List.set_cons_succ]
  refine wpAnyH_take (i := 15) (oi := ?_) (v := ?_) ?_ (by kernel_rfl) (by kernel_rfl) (by kernel_rfl) (fun _ _ _ h => h) (Or.inl ⟨?_, ?_⟩) (by assumption) ?_
  rotate_left 2
  · (simp only [List.getElem?_toArray, List.getElem?_cons_succ, List.getElem?_cons_zero]; try rfl)
  · rfl
  · (intro W9 hSw; (try dsimp only at hSw); first | (go_simp; done) | (go_simp; with_reducible rfl))
  simp only [Act.put, List.setIfInBounds_toArray, List.set_cons_zero, List.set_cons_succ]
  refine wpAnyH_take (i := 16) (oi := ?_) (v := ?_) ?_ (by kernel_rfl) (by kernel_rfl) (by kernel_rfl) (fun _ _ _ h => h) (Or.inl ⟨?_, ?_⟩) (by assumption) ?_
  rotate_left 2
  · (simp only [List.getElem?_toArray, List.getElem?_cons_succ, List.getElem?_cons_zero]; try rfl)
  · rfl
  · (intro W9 hSw; (try dsimp only at hSw); first | (go_simp; done) | (go_simp; with_reducible rfl))
  simp only [Act.put, List.setIfInBounds_toArray, List.set_cons_zero, List.set_cons_succ]
  refine wpAnyH_take (i := 17) (oi := ?_) (v := ?_) ?_ (by kernel_rfl) (by kernel_rfl) (by kernel_rfl) (fun _ _ _ h => h) (Or.inl ⟨?_, ?_⟩) (by assumption) ?_
  rotate_left 2
  · (simp only [List.getElem?_toArray, List.getElem?_cons_succ, List.getElem?_cons_zero]; try rfl)
  · rfl
  · (intro W9 hSw; (try dsimp only at hSw); first | (go_simp; done) | (go_simp; with_reducible rfl))
  simp only [Act.put, List.setIfInBounds_toArray, List.set_cons_zero, List.set_cons_succ]
  refine wpAnyH_take (i := 18) (oi := ?_) (v := ?_) ?_ (by kernel_rfl) (by kernel_rfl) (by kernel_rfl) (fun _ _ _ h => h) (Or.inl ⟨?_, ?_⟩) (by assumption) ?_
  rotate_left 2
  · (simp only [List.getElem?_toArray, List.getElem?_cons_succ, List.getElem?_cons_zero]; try rfl)
  · rfl
  · (intro W9 hSw; (try dsimp only at hSw); first | (go_simp; done) | (go_simp; with_reducible rfl))
  simp only [Act.put, List.setIfInBounds_toArray, List.set_cons_zero, List.set_cons_succ]
  refine wpAnyH_ready (rs := [11]) (by kernel_rfl) (by simp) ?_
  refine AllReadyH.cons (o := ?_) ?_ (fun K hK => ?_) AllReadyH.nil
  rotate_left 1
  · (simp only [List.getElem?_toArray, List.getElem?_cons_succ, List.getElem?_cons_zero]; try rfl)
  have hsp := spr_row
  go_simp
  refine spr_rows _ _ (fun t => ?_)
  have H2 := Lib.hid (H1.out.next (below_drew1 _))
  clear c5 n0 p0 p1 c20 z zP
  obtain ⟨c5, n0, p0, p1, c20⟩ : _ ∧ _ ∧ _ ∧ _ ∧ _ := ⟨H2.out.lp.c5, H2.out.lp.n0, H2.out.p0, H2.out.p1, H2.out.lp.c20⟩
  have z := H2.out.z
  have zP := H2.out.lt
  try go_simp
  refine hK.out _ _ ⟨c5, n0, p0, p1, c20⟩ (fun hHeld => ?_)
  clear hK K
  refine wpAnyH_ready (rs := [13]) (by kernel_rfl) (by simp) ?_
  refine AllReadyH.cons (o := ?_) ?_ (fun K hK => ?_) AllReadyH.nil
  rotate_left 1
  · (simp only [List.getElem?_toArray, List.getElem?_cons_succ, List.getElem?_cons_zero]; try rfl)
  go_simp
  refine (bits_any _ _).mono ?_
  rintro e w3 ⟨rfl, hw3⟩
  have hz3 : Below U.drew.drew.heap.size U.drew.drew w3 := by rw [hw3]; exact (Below.refl _ _).alloc (Nat.le_refl _) _
  have hc3 : w3.cell? ⟨U.drew.drew.heap.size, 0, none⟩ = some (.int .i64 (Go.bits .andNot .i64 s 8)) := by rw [hw3]; exact World.cell?_alloc_new _ _ _ _
  have hs3 : U.drew.drew.heap.size < w3.heap.size := by rw [hw3]; simp
  clear hw3
  have H3 := Lib.hid (H2.out.next hz3)
  clear hz3
  clear c5 n0 p0 p1 c20 z zP
  obtain ⟨c5, n0, p0, p1, c20⟩ : _ ∧ _ ∧ _ ∧ _ ∧ _ := ⟨H3.out.lp.c5, H3.out.lp.n0, H3.out.p0, H3.out.p1, H3.out.lp.c20⟩
  have z := H3.out.z
  have zP := H3.out.lt
  try go_simp
  refine hK.out _ _ ⟨c5, n0, p0, p1, c20⟩ (fun hHeld => ?_)
  clear hK K
  refine wpAnyH_ready (rs := [14]) (by kernel_rfl) (by simp) ?_
  refine AllReadyH.cons (o := ?_) ?_ (fun K hK => ?_) AllReadyH.nil
  rotate_left 1
  · (simp only [List.getElem?_toArray, List.getElem?_cons_succ, List.getElem?_cons_zero]; try rfl)
  go_simp
  refine (coll_any (Go.bits .andNot .i64 s 8) _ _ hs3 hc3).mono ?_
  rintro e w4 ⟨v, rfl, hrow, hb4⟩
  have H4 := Lib.hid (H3.out.next hb4)
  obtain ⟨va, vn, vc, rfl⟩ : ∃ va vn vc, v = .slice va vn vc := by
    rcases hrow.2 with ⟨h, _⟩ | ⟨g, c, cur, h, _⟩
    · exact ⟨_, _, _, h⟩
    · exact ⟨_, _, _, h⟩
  have HR := Lib.hid (And.intro hrow (And.intro hb4.size H3.out.z))
  clear hrow hb4 hs3 hc3
  clear c5 n0 p0 p1 c20 z zP
  obtain ⟨c5, n0, p0, p1, c20⟩ : _ ∧ _ ∧ _ ∧ _ ∧ _ := ⟨H4.out.lp.c5, H4.out.lp.n0, H4.out.p0, H4.out.p1, H4.out.lp.c20⟩
  have z := H4.out.z
  have zP := H4.out.lt
  try go_simp
  refine hK.out _ _ ⟨c5, n0, p0, p1, c20⟩ (fun hHeld => ?_)
  clear hK K
  refine wpAnyH_take (i := 19) (oi := ?_) (v := ?_) ?_ (by kernel_rfl) (by kernel_rfl) (by kernel_rfl) (fun _ _ _ h => h) (Or.inl ⟨?_, ?_⟩) (by assumption) ?_
  rotate_left 2
  · (simp only [List.getElem?_toArray, List.getElem?_cons_succ, List.getElem?_cons_zero]; try rfl)
  · rfl
  · (intro W9 hSw; (try dsimp only at hSw); first | (go_simp; done) | (go_simp; with_reducible rfl))
  simp only [Act.put, List.setIfInBounds_toArray, List.set_cons_zero, List.set_cons_succ]
  refine wpAnyH_take (i := 20) (oi := ?_) (v := ?_) ?_ (by kernel_rfl) (by kernel_rfl) (by kernel_rfl) (fun _ _ _ h => h) (Or.inl ⟨?_, ?_⟩) (by assumption) ?_
  rotate_left 2
  · (simp only [List.getElem?_toArray, List.getElem?_cons_succ, List.getElem?_cons_zero]; try rfl)
  · rfl
  · (intro W9 hSw; (try dsimp only at hSw); first | (go_simp; done) | (go_simp; with_reducible rfl))
  simp only [Act.put, List.setIfInBounds_toArray, List.set_cons_zero, List.set_cons_succ]
  refine wpAnyH_ready (rs := [21]) (by kernel_rfl) (by simp) ?_
  refine AllReadyH.cons (o := ?_) ?_ (fun K hK => ?_) AllReadyH.nil
  rotate_left 1
  · (simp only [List.getElem?_toArray, List.getElem?_cons_succ, List.getElem?_cons_zero]; try rfl)
  go_simp
  refine (ep_any P f L _ _ H4.out.lp).mono ?_
  rintro e w5 ⟨rfl, hlp, hb5, hg5⟩
  have q0 : w5.cell? ⟨w.heap.size, 0, none⟩ = some (.int .u32 o) := (cell_other hg5 (p := ⟨w.heap.size, 0, none⟩) z (by simp; omega)).trans p0
  have q1 : w5.cell? ⟨w.heap.size, 1, none⟩ = some (.int .u32 lc) := (cell_other hg5 (p := ⟨w.heap.size, 1, none⟩) z (by simp; omega)).trans p1
  have hr5 := HR.out.1.kept hg5 (Or.inr (fun e => by have := (HR.out.1.lt _ e).1; have := HR.out.2.2; omega))
  have hB5 : Below P w w5 := H4.out.below.trans hb5
  have HF := Lib.hid (And.intro hlp (And.intro hr5 (And.intro hB5 (Nat.le_of_lt HR.out.2.2))))
  clear hr5 hB5 hb5 hg5 HR
  try go_simp
  refine hK.out _ _ ⟨HF.out.1.c5, HF.out.1.n0, q0, q1, HF.out.1.c20⟩ (fun hHeld => ?_)
  clear hK K hlp
  refine wpAnyH_done (by kernel_rfl) ?_ _
  refine NoPanic.normal ?_
  go_wp2_with fail
  go_end0
  exact ⟨rfl, t, va, vn, vc, HF.out.1, base_le0 HF.out.2.1 HF.out.2.2.2, HF.out.2.2.1⟩
end Go.Proofs.YthdbfebfgomnpaaFmt
