/- The walk of FnCheckLangExact: the Go text returns true. Conditions: none. -/
import Derived.Test.YthdbfebfgomnpaaFmtCheck
import Derived.Test.YthdbfebfgomnpaaFmtSame
import Derived.Test.YthdbfebfgomnpaaFmtPos
namespace Go.Proofs.YthdbfebfgomnpaaFmt.fnCheckLangExact
open Go.RowKit
set_option linter.unusedVariables false
set_option linter.unusedSimpArgs false

theorem zcl_yes (P f : Nat) (L o lc s tok : Int) (err : Value) (w : World) (h : LP w P f L err tok) (hin : (Go.bits .and .i64 L s == L) = true) :
    Calls Tryf.prog 6 #[.pointer (some ⟨P, 0, none⟩), .agg #[.int .u32 o, .int .u32 lc], .int .i64 s] w fun e w' => e = .returned (.tuple #[]) ∧ LP w' P f L err tok ∧ Below w.heap.size w w' := by
  have H := Lib.hid (CK.start w P f L o lc tok err h)
  have hB : Below w.heap.size w (w.alloc (.cells #[.int .u32 o, .int .u32 lc] 25)) := by go_grown
  clear h
  go_enter Tryf.func6, Tryf.ntmps6
  go_wp2_with fail
  refine (cl_yes P f L o lc s tok err _ H.out.lp hin).mono ?_
  rintro e w' ⟨rfl, h', hb⟩
  have hF := below_next hB hb
  go_wp2_with fail
  go_end0
  exact ⟨rfl, h', hF⟩
theorem zcl_no (P f : Nat) (L o lc s : Int) (w : World) (h : LP w P f L .nilIface 0) (hin : (Go.bits .and .i64 L s == L) = false) :
    Calls Tryf.prog 6 #[.pointer (some ⟨P, 0, none⟩), .agg #[.int .u32 o, .int .u32 lc], .int .i64 s] w fun e w' => e = .returned (.tuple #[]) ∧ ∃ t va vn vc, LP w' P f L (.iface 34 (leV o lc t (.slice va vn vc) L)) 1 ∧ w'.ownsRow w.heap.size 29 1 (.slice va vn vc) (mdl s).length ((mdl s).map encZ) ∧ Below P w w' := by
  have H := Lib.hid (CK.start w P f L o lc 0 .nilIface h)
  clear h
  go_enter Tryf.func6, Tryf.ntmps6
  go_wp2_with fail
  cases h9 : (Go.bits .and .i64 9 s == 9)
  · have e : mdl s = bitsTo s 5 := by rw [← cut_is]; unfold cutS; rw [h9]; rfl
    refine (cl_no0 P f L o lc s _ H.out.lp hin h9).mono ?_
    rintro e' w' ⟨rfl, t, va, vn, vc, hlp, hr, hb⟩
    rw [← e] at hr
    have HF := Lib.hid (And.intro hlp (And.intro (base_le0 (b' := w.heap.size) hr (by simp)) (H.out.below.trans hb)))
    clear hlp hr hb e
    go_wp2_with fail
    go_end0
    exact ⟨rfl, t, va, vn, vc, HF.out⟩
  · have e : mdl s = bitsTo (Go.bits .andNot .i64 s 8) 5 := by rw [← cut_is]; unfold cutS; rw [h9]; rfl
    refine (cl_no1 P f L o lc s _ H.out.lp hin h9).mono ?_
    rintro e' w' ⟨rfl, t, va, vn, vc, hlp, hr, hb⟩
    rw [← e] at hr
    have HF := Lib.hid (And.intro hlp (And.intro (base_le0 (b' := w.heap.size) hr (by simp)) (H.out.below.trans hb)))
    clear hlp hr hb e
    go_wp2_with fail
    go_end0
    exact ⟨rfl, t, va, vn, vc, HF.out⟩

/-- the error read back into its box -/
def E6 (U : World) (b : Nat) (o lc : Int) (t : ByteArray) (v : Value) (L : Int) : Prop := U.cell? ⟨b, 0, none⟩ = some (.string ⟨#[]⟩) ∧ U.cell? ⟨b, 1, none⟩ = some (.int .u32 o) ∧ U.cell? ⟨b, 2, none⟩ = some (.int .u32 lc) ∧ U.cell? ⟨b, 3, none⟩ = some (.string t) ∧ U.cell? ⟨b, 4, none⟩ = some v ∧ U.cell? ⟨b, 5, none⟩ = some (.int .i64 L)
structure EB (w : World) (q b : Nat) (o lc L : Int) (t : ByteArray) (v : Value) (B : Nat) (err : Value) (l : List Int) (U : World) : Prop where
  e : E6 U b o lc t v L
  m0 : U.cell? ⟨q, 0, none⟩ = some (.int .u32 o)
  m1 : U.cell? ⟨q, 1, none⟩ = some (.int .u32 lc)
  lp : LP U (q + 1 + 1) (q + 1) L err 1
  row : U.ownsRow B 29 1 v l.length (l.map encZ)
  below : Below w.heap.size w U
  lt : b < U.heap.size
  lq : q + 1 + 1 < U.heap.size
theorem row_next {U U' : World} {B : Nat} {e : TypeId} {v : Value} {k : Nat} {xs : List Value} (h : U.ownsRow B e 1 v k xs) (hb : Below U.heap.size U U') : U'.ownsRow B e 1 v k xs :=
  h.kept (row := none) ⟨hb.os, hb.tape, hb.output, hb.size, fun k hk _ => hb.block k hk⟩ (Classical.em _)
theorem EB.next {w U U' : World} {q b : Nat} {o lc L : Int} {t : ByteArray} {v : Value} {B : Nat} {err : Value} {l : List Int} (h : EB w q b o lc L t v B err l U) (hb : Below U.heap.size U U') : EB w q b o lc L t v B err l U' :=
  have kb : ∀ j, U'.cell? ⟨b, j, none⟩ = U.cell? ⟨b, j, none⟩ := fun j => hb.cell (p := ⟨b, j, none⟩) h.lt
  have kq : ∀ j, U'.cell? ⟨q, j, none⟩ = U.cell? ⟨q, j, none⟩ := fun j => hb.cell (p := ⟨q, j, none⟩) (by have := h.lq; simp; omega)
  ⟨⟨(kb 0).trans h.e.1, (kb 1).trans h.e.2.1, (kb 2).trans h.e.2.2.1, (kb 3).trans h.e.2.2.2.1, (kb 4).trans h.e.2.2.2.2.1, (kb 5).trans h.e.2.2.2.2.2⟩, (kq 0).trans h.m0, (kq 1).trans h.m1, h.lp.below hb h.lq, row_next h.row hb, below_next h.below hb, Nat.lt_of_lt_of_le h.lt hb.size, Nat.lt_of_lt_of_le h.lq hb.size⟩

set_option maxRecDepth 100000 in
set_option maxHeartbeats 4000000 in
theorem walk (a0 a1 a2 a3 a4 : Int) (w : World) (w0 : (Lit.int .i64 a0).wf = true) (w1 : (Lit.int .i64 a1).wf = true) (w2 : (Lit.int .u64 a2).wf = true) (w3 : (Lit.int .u64 a3).wf = true) (w4 : (Lit.int .u64 a4).wf = true) :
    Calls Tryf.prog 3 #[.int .i64 a0, .int .i64 a1, .int .u64 a2, .int .u64 a3, .int .u64 a4] w fun e w' => e = .returned (.bool true) ∧ Below w.heap.size w w' := by
  have b0 := bounds_i64 w0
  have b1 := bounds_i64 w1
  have b2 := bounds_u64 w2
  have b3 := bounds_u64 w3
  have b4 := bounds_u64 w4
  clear w0 w1 w2 w3 w4
  by_cases hall : a2 ≤ 65536 ∧ a3 ≤ 65536 ∧ a4 ≤ 65536
  · obtain ⟨h2, h3, h4⟩ := hall
    have hiff := in_iff a0 a1 ⟨b0.1, b0.2⟩
    cases hin : (Go.bits .and .i64 a0 a1 == a0)
    · rw [hin] at hiff
      have hq := hiff.symm
      clear hiff
      go_enter Tryf.func3, Tryf.ntmps3
      go_wp2_with fail
      refine (newPos_any _ _ _ _ b2 b3 b4).mono ?_
      rintro e w1 ⟨rfl, hb1⟩
      go_wp2_with fail
      refine (nlp_any _ _).mono ?_
      rintro e w2 ⟨rfl, hlp, hb2, hs2⟩
      obtain ⟨m0, m1, -, -, -⟩ := slot_after hb2
      simp only [World.size_alloc] at hlp hs2
      have hz2 : w1.heap.size + 1 + 1 < w2.heap.size := by omega
      have hB2 : Below w.heap.size w w2 := below_next ((below_next (by go_grown) hb1).trans (by have := hb1.size; exact (Below.refl _ _).alloc this _)) hb2
      have hw1 : w.heap.size ≤ w1.heap.size := hb1.size
      clear hb1 hb2 hs2
      go_wp2_with fail
      refine (zcl_no _ _ _ _ _ _ _ hlp hin).mono ?_
      rintro e w3 ⟨rfl, t, va, vn, vc, hlp3, hr, hb3⟩
      have m0 : w3.cell? ⟨w1.heap.size, 0, none⟩ = some (.int .u32 (offCap a2)) := by rw [hb3.cell (p := ⟨w1.heap.size, 0, none⟩) (by simp; omega)]; exact m0
      have m1 : w3.cell? ⟨w1.heap.size, 1, none⟩ = some (.int .u32 (lcOf a3 a4)) := by rw [hb3.cell (p := ⟨w1.heap.size, 1, none⟩) (by simp; omega)]; exact m1
      have hz3 : w1.heap.size + 1 + 1 < w3.heap.size := Nat.lt_of_lt_of_le hz2 hb3.size
      have hB3 : Below w.heap.size w w3 := hB2.trans (hb3.mono (by omega))
      have HR := Lib.hid hr
      have HP := Lib.hid hlp3
      clear hr hb3 hlp hlp3 hB2
      go_wp2_with fail
      refine (lerr_any _ _ _ _ _ _ _ _ _ _ _ HP.out).mono ?_
      rintro e w4 ⟨rfl, hb4⟩
      have m0 : w4.cell? ⟨w1.heap.size, 0, none⟩ = some (.int .u32 (offCap a2)) := by rw [hb4.cell (p := ⟨w1.heap.size, 0, none⟩) (by simp; omega)]; exact m0
      have m1 : w4.cell? ⟨w1.heap.size, 1, none⟩ = some (.int .u32 (lcOf a3 a4)) := by rw [hb4.cell (p := ⟨w1.heap.size, 1, none⟩) (by simp; omega)]; exact m1
      have hz4 : w1.heap.size + 1 + 1 < w4.heap.size := Nat.lt_of_lt_of_le hz3 hb4.size
      have hB4 := below_next hB3 hb4
      have HP4 := Lib.hid (HP.out.below hb4 hz3)
      have HR4 := Lib.hid (HR.out.kept (row := none) ⟨hb4.os, hb4.tape, hb4.output, hb4.size, fun k hk _ => hb4.block k hk⟩ (by cases va <;> simp [Value.ownBlock]))
      clear HP HR hb4 hz3 hB3
      unfold leV
      go_wp2_with fail
      refine wp_gen0 (fun U => EB w w1.heap.size w4.heap.size (offCap a2) (lcOf a3 a4) a0 t (.slice va vn vc) w2.heap.size (.iface 34 (leV (offCap a2) (lcOf a3 a4) t (.slice va vn vc) a0)) (mdl a1) U) ?_ ?_
      · have hbU : Below w4.heap.size w4 (w4.alloc (.cells #[.string ⟨#[]⟩, .int .u32 (offCap a2), .int .u32 (lcOf a3 a4), .string t, .slice va vn vc, .int .i64 a0] 34)) := by go_grown
        first
          | exact ⟨⟨by simp [go_sem], by simp [go_sem], by simp [go_sem], by simp [go_sem], by simp [go_sem], by simp [go_sem]⟩, (hbU.cell (p := ⟨w1.heap.size, 0, none⟩) (by simp; omega)).trans m0, (hbU.cell (p := ⟨w1.heap.size, 1, none⟩) (by simp; omega)).trans m1, HP4.out.below hbU hz4, row_next HR4.out hbU, below_next hB4 hbU, by simp, by simp; omega⟩
      clear m0 m1 hz4 hB4 HP4 HR4
      intro U hU
      have H1 := Lib.hid (hU.next (below_drew1 U))
      clear hU
      obtain ⟨e0, e1, e2, -, e4, e5⟩ := H1.out.e
      have m0 := H1.out.m0
      have m1 := H1.out.m1
      have z1 := H1.out.lt
      have z2 := H1.out.lq
      refine wp_region_noPanic ?_
      refine wp_region_held_drew (S := (fun U9 => U9.cell? ⟨w4.heap.size, 0, none⟩ = some (.string ⟨#[]⟩) ∧ U9.cell? ⟨w4.heap.size, 1, none⟩ = some (.int .u32 (offCap a2)) ∧ U9.cell? ⟨w4.heap.size, 2, none⟩ = some (.int .u32 (lcOf a3 a4)) ∧ U9.cell? ⟨w4.heap.size, 4, none⟩ = some (.slice va vn vc) ∧ U9.cell? ⟨w4.heap.size, 5, none⟩ = some (.int .i64 a0) ∧ U9.cell? ⟨w1.heap.size, 0, none⟩ = some (.int .u32 (offCap a2)) ∧ U9.cell? ⟨w1.heap.size, 1, none⟩ = some (.int .u32 (lcOf a3 a4)))) (by kernel_rfl) ⟨e0, e1, e2, e4, e5, m0, m1⟩ (fun hHeld => ?_)
      refine wpAnyH_take (i := 0) (oi := ?_) (v := ?_) ?_ (by kernel_rfl) (by kernel_rfl) (by kernel_rfl) (fun _ _ _ h => h) (Or.inl ⟨?_, ?_⟩) (by assumption) ?_
      rotate_left 2
      · (simp only [List.getElem?_toArray, List.getElem?_cons_zero]; try rfl)
      · rfl
      · (intro W9 hSw; (try dsimp only at hSw); first | (go_simp; done) | (go_simp; with_reducible rfl))
      simp only [Act.put, List.setIfInBounds_toArray, List.set_cons_zero, List.set_cons_succ]
      refine wpAnyH_take (i := 1) (oi := ?_) (v := ?_) ?_ (by kernel_rfl) (by kernel_rfl) (by kernel_rfl) (fun _ _ _ h => h) (Or.inl ⟨?_, ?_⟩) (by assumption) ?_
      rotate_left 2
      · (simp only [List.getElem?_toArray, List.getElem?_cons_succ, List.getElem?_cons_zero]; try rfl)
      · rfl
      · (intro W9 hSw; (try dsimp only at hSw); first | (go_simp; done) | (go_simp; with_reducible rfl))
      simp only [Act.put, List.setIfInBounds_toArray, List.set_cons_zero, List.set_cons_succ]
      refine wpAnyH_take (i := 2) (oi := ?_) (v := ?_) ?_ (by kernel_rfl) (by kernel_rfl) (by kernel_rfl) (fun _ _ _ h => h) (Or.inl ⟨?_, ?_⟩) (by assumption) ?_
      rotate_left 2
      · (simp only [List.getElem?_toArray, List.getElem?_cons_succ, List.getElem?_cons_zero]; try rfl)
      · rfl
      · (intro W9 hSw; (try dsimp only at hSw); first | (go_simp; done) | (go_simp; with_reducible rfl))
      simp only [Act.put, List.setIfInBounds_toArray, List.set_cons_zero, List.set_cons_succ]
      refine wpAnyH_take (i := 3) (oi := ?_) (v := ?_) ?_ (by kernel_rfl) (by kernel_rfl) (by kernel_rfl) (fun _ _ _ h => h) (Or.inl ⟨?_, ?_⟩) (by assumption) ?_
      rotate_left 2
      · (simp only [List.getElem?_toArray, List.getElem?_cons_succ, List.getElem?_cons_zero]; try rfl)
      · rfl
      · (intro W9 hSw; (try dsimp only at hSw); first | (go_simp; done) | (go_simp; with_reducible rfl))
      simp only [Act.put, List.setIfInBounds_toArray, List.set_cons_zero, List.set_cons_succ]
      refine wpAnyH_take (i := 4) (oi := ?_) (v := ?_) ?_ (by kernel_rfl) (by kernel_rfl) (by kernel_rfl) (fun _ _ _ h => h) (Or.inl ⟨?_, ?_⟩) (by assumption) ?_
      rotate_left 2
      · (simp only [List.getElem?_toArray, List.getElem?_cons_succ, List.getElem?_cons_zero]; try rfl)
      · rfl
      · (intro W9 hSw; (try dsimp only at hSw); first | (go_simp; done) | (go_simp; with_reducible rfl))
      simp only [Act.put, List.setIfInBounds_toArray, List.set_cons_zero, List.set_cons_succ]
      refine wpAnyH_take (i := 5) (oi := ?_) (v := ?_) ?_ (by kernel_rfl) (by kernel_rfl) (by kernel_rfl) (fun _ _ _ h => h) (Or.inl ⟨?_, ?_⟩) (by assumption) ?_
      rotate_left 2
      · (simp only [List.getElem?_toArray, List.getElem?_cons_succ, List.getElem?_cons_zero]; try rfl)
      · rfl
      · (intro W9 hSw; (try dsimp only at hSw); first | (go_simp; done) | (go_simp; with_reducible rfl))
      simp only [Act.put, List.setIfInBounds_toArray, List.set_cons_zero, List.set_cons_succ]
      refine wpAnyH_take (i := 6) (oi := ?_) (v := ?_) ?_ (by kernel_rfl) (by kernel_rfl) (by kernel_rfl) (fun _ _ _ h => h) (Or.inl ⟨?_, ?_⟩) (by assumption) ?_
      rotate_left 2
      · (simp only [List.getElem?_toArray, List.getElem?_cons_succ, List.getElem?_cons_zero]; try rfl)
      · rfl
      · (intro W9 hSw; (try dsimp only at hSw); first | (go_simp; done) | (go_simp; with_reducible rfl))
      simp only [Act.put, List.setIfInBounds_toArray, List.set_cons_zero, List.set_cons_succ]
      refine wpAnyH_take (i := 7) (oi := ?_) (v := ?_) ?_ (by kernel_rfl) (by kernel_rfl) (by kernel_rfl) (fun _ _ _ h => h) (Or.inl ⟨?_, ?_⟩) (by assumption) ?_
      rotate_left 2
      · (simp only [List.getElem?_toArray, List.getElem?_cons_succ, List.getElem?_cons_zero]; try rfl)
      · rfl
      · (intro W9 hSw; (try dsimp only at hSw); first | (go_simp; done) | (go_simp; with_reducible rfl))
      simp only [Act.put, List.setIfInBounds_toArray, List.set_cons_zero, List.set_cons_succ]
      refine wpAnyH_take (i := 8) (oi := ?_) (v := ?_) ?_ (by kernel_rfl) (by kernel_rfl) (by kernel_rfl) (fun _ _ _ h => h) (Or.inl ⟨?_, ?_⟩) (by assumption) ?_
      rotate_left 2
      · (simp only [List.getElem?_toArray, List.getElem?_cons_succ, List.getElem?_cons_zero]; try rfl)
      · rfl
      · (intro W9 hSw; (try dsimp only at hSw); first | (go_simp; done) | (go_simp; with_reducible rfl))
      simp only [Act.put, List.setIfInBounds_toArray, List.set_cons_zero, List.set_cons_succ]
      refine wpAnyH_take (i := 9) (oi := ?_) (v := ?_) ?_ (by kernel_rfl) (by kernel_rfl) (by kernel_rfl) (fun _ _ _ h => h) (Or.inl ⟨?_, ?_⟩) (by assumption) ?_
      rotate_left 2
      · (simp only [List.getElem?_toArray, List.getElem?_cons_succ, List.getElem?_cons_zero]; try rfl)
      · rfl
      · (intro W9 hSw; (try dsimp only at hSw); first | (go_simp; done) | (go_simp; with_reducible rfl))
      simp only [Act.put, List.setIfInBounds_toArray, List.set_cons_zero, List.set_cons_succ]
      refine wpAnyH_take (i := 10) (oi := ?_) (v := ?_) ?_ (by kernel_rfl) (by kernel_rfl) (by kernel_rfl) (fun _ _ _ h => h) (Or.inl ⟨?_, ?_⟩) (by assumption) ?_
      rotate_left 2
      · (simp only [List.getElem?_toArray, List.getElem?_cons_succ, List.getElem?_cons_zero]; try rfl)
      · rfl
      · (intro W9 hSw; (try dsimp only at hSw); first | (go_simp; done) | (go_simp; with_reducible rfl))
      simp only [Act.put, List.setIfInBounds_toArray, List.set_cons_zero, List.set_cons_succ]
      refine wpAnyH_take (i := 11) (oi := ?_) (v := ?_) ?_ (by kernel_rfl) (by kernel_rfl) (by kernel_rfl) (fun _ _ _ h => h) (Or.inl ⟨?_, ?_⟩) (by assumption) ?_
      rotate_left 2
      · (simp only [List.getElem?_toArray, List.getElem?_cons_succ, List.getElem?_cons_zero]; try rfl)
      · rfl
      · (intro W9 hSw; (try dsimp only at hSw); first | (go_simp; done) | (go_simp; with_reducible rfl))
      simp only [Act.put, List.setIfInBounds_toArray, List.set_cons_zero, List.set_cons_succ]
      refine wpAnyH_take (i := 12) (oi := ?_) (v := ?_) ?_ (by kernel_rfl) (by kernel_rfl) (by kernel_rfl) (fun _ _ _ h => h) (Or.inl ⟨?_, ?_⟩) (by assumption) ?_
      rotate_left 2
      · (simp only [List.getElem?_toArray, List.getElem?_cons_succ, List.getElem?_cons_zero]; try rfl)
      · rfl
      · (intro W9 hSw; (try dsimp only at hSw); first | (go_simp; done) | (go_simp; with_reducible rfl))
      simp only [Act.put, List.setIfInBounds_toArray, List.set_cons_zero, List.set_cons_succ]
      refine wpAnyH_take (i := 13) (oi := ?_) (v := ?_) ?_ (by kernel_rfl) (by kernel_rfl) (by kernel_rfl) (fun _ _ _ h => h) (Or.inl ⟨?_, ?_⟩) (by assumption) ?_
      rotate_left 2
      · (simp only [List.getElem?_toArray, List.getElem?_cons_succ, List.getElem?_cons_zero]; try rfl)
      · rfl
      · (intro W9 hSw; (try dsimp only at hSw); first | (go_simp; done) | (go_simp; with_reducible rfl))
      simp only [Act.put, List.setIfInBounds_toArray, List.set_cons_zero, List.set_cons_succ]
      refine wpAnyH_take (i := 14) (oi := ?_) (v := ?_) ?_ (by kernel_rfl) (by kernel_rfl) (by kernel_rfl) (fun _ _ _ h => h) (Or.inl ⟨?_, ?_⟩) (by assumption) ?_
      rotate_left 2
      · (simp only [List.getElem?_toArray, List.getElem?_cons_succ, List.getElem?_cons_zero]; try rfl)
      · rfl
      · (intro W9 hSw; (try dsimp only at hSw); first | (go_simp; done) | (go_simp; with_reducible rfl))
      simp only [Act.put, List.setIfInBounds_toArray, List.set_cons_zero, List.set_cons_succ]
      refine wpAnyH_take (i := 15) (oi := ?_) (v := ?_) ?_ (by kernel_rfl) (by kernel_rfl) (by kernel_rfl) (fun _ _ _ h => h) (Or.inl ⟨?_, ?_⟩) (by assumption) ?_
      rotate_left 2
      · (simp only [List.getElem?_toArray, List.getElem?_cons_succ, List.getElem?_cons_zero]; try rfl)
      · rfl
      · (intro W9 hSw; (try dsimp only at hSw); first | (go_simp; done) | (go_simp; with_reducible rfl))
      simp only [Act.put, List.setIfInBounds_toArray, List.set_cons_zero, List.set_cons_succ]
      refine wpAnyH_take (i := 16) (oi := ?_) (v := ?_) ?_ (by kernel_rfl) (by kernel_rfl) (by kernel_rfl) (fun _ _ _ h => h) (Or.inl ⟨?_, ?_⟩) (by assumption) ?_
      rotate_left 2
      · (simp only [List.getElem?_toArray, List.getElem?_cons_succ, List.getElem?_cons_zero]; try rfl)
      · rfl
      · (intro W9 hSw; (try dsimp only at hSw); first | (go_simp; done) | (go_simp; with_reducible rfl))
      simp only [Act.put, List.setIfInBounds_toArray, List.set_cons_zero, List.set_cons_succ]
      refine wpAnyH_take (i := 17) (oi := ?_) (v := ?_) ?_ (by kernel_rfl) (by kernel_rfl) (by kernel_rfl) (fun _ _ _ h => h) (Or.inl ⟨?_, ?_⟩) (by assumption) ?_
      rotate_left 2
      · (simp only [List.getElem?_toArray, List.getElem?_cons_succ, List.getElem?_cons_zero]; try rfl)
      · rfl
      · (intro W9 hSw; (try dsimp only at hSw); first | (go_simp; done) | (go_simp; with_reducible rfl))
      simp only [Act.put, List.setIfInBounds_toArray, List.set_cons_zero, List.set_cons_succ]
      refine wpAnyH_take (i := 18) (oi := ?_) (v := ?_) ?_ (by kernel_rfl) (by kernel_rfl) (by kernel_rfl) (fun _ _ _ h => h) (Or.inl ⟨?_, ?_⟩) (by assumption) ?_
      rotate_left 2
      · (simp only [List.getElem?_toArray, List.getElem?_cons_succ, List.getElem?_cons_zero]; try rfl)
      · rfl
      · (intro W9 hSw; (try dsimp only at hSw); first | (go_simp; done) | (go_simp; with_reducible rfl))
      simp only [Act.put, List.setIfInBounds_toArray, List.set_cons_zero, List.set_cons_succ]
      refine wpAnyH_ready (rs := [19]) (by kernel_rfl) (by simp) ?_
      refine AllReadyH.cons (o := ?_) ?_ (fun K hK => ?_) AllReadyH.nil
      rotate_left 1
      · (simp only [List.getElem?_toArray, List.getElem?_cons_succ, List.getElem?_cons_zero]; try rfl)
      go_simp
      refine (ml_any _ _).mono ?_
      rintro e w5 ⟨v5, rfl, hr5, hb5⟩
      have H2 := Lib.hid (H1.out.next hb5)
      have HM := Lib.hid hr5
      clear hr5 hb5
      clear e0 e1 e2 e4 e5 m0 m1 z1 z2
      obtain ⟨e0, e1, e2, -, e4, e5⟩ := H2.out.e
      have m0 := H2.out.m0
      have m1 := H2.out.m1
      have z1 := H2.out.lt
      have z2 := H2.out.lq
      try go_simp
      refine hK.out _ _ ⟨e0, e1, e2, e4, e5, m0, m1⟩ (fun hHeld => ?_)
      clear hK K
      refine wpAnyH_ready (rs := [20]) (by kernel_rfl) (by simp) ?_
      refine AllReadyH.cons (o := ?_) ?_ (fun K hK => ?_) AllReadyH.nil
      rotate_left 1
      · (simp only [List.getElem?_toArray, List.getElem?_cons_succ, List.getElem?_cons_zero]; try rfl)
      go_simp
      have hl5 : (mdl a1).length ≤ 5 := mdlTo_len a1 5
      refine (sl_any (mdl a1) hl5 _ _ _ _ _ H2.out.row HM.out).mono ?_
      rintro e w6 ⟨rfl, hb6⟩
      have H3 := Lib.hid (H2.out.next hb6)
      clear hb6 hl5
      clear e0 e1 e2 e4 e5 m0 m1 z1 z2
      obtain ⟨e0, e1, e2, -, e4, e5⟩ := H3.out.e
      have m0 := H3.out.m0
      have m1 := H3.out.m1
      have z1 := H3.out.lt
      have z2 := H3.out.lq
      try go_simp
      refine hK.out _ _ ⟨e0, e1, e2, e4, e5, m0, m1⟩ (fun hHeld => ?_)
      clear hK K
      refine wpAnyH_take (i := 21) (oi := ?_) (v := ?_) ?_ (by kernel_rfl) (by kernel_rfl) (by kernel_rfl) (fun _ _ _ h => h) (Or.inl ⟨?_, ?_⟩) (by assumption) ?_
      rotate_left 2
      · (simp only [List.getElem?_toArray, List.getElem?_cons_succ, List.getElem?_cons_zero]; try rfl)
      · rfl
      · (intro W9 hSw; (try dsimp only at hSw); first | (go_simp; done) | (go_simp; with_reducible rfl))
      simp only [Act.put, List.setIfInBounds_toArray, List.set_cons_zero, List.set_cons_succ]
      refine wpAnyH_take (i := 22) (oi := ?_) (v := ?_) ?_ (by kernel_rfl) (by kernel_rfl) (by kernel_rfl) (fun _ _ _ h => h) (Or.inl ⟨?_, ?_⟩) (by assumption) ?_
      rotate_left 2
      · (simp only [List.getElem?_toArray, List.getElem?_cons_succ, List.getElem?_cons_zero]; try rfl)
      · rfl
      · (intro W9 hSw; (try dsimp only at hSw); first | (go_simp; done) | (go_simp; with_reducible rfl))
      simp only [Act.put, List.setIfInBounds_toArray, List.set_cons_zero, List.set_cons_succ]
      refine wpAnyH_take (i := 23) (oi := ?_) (v := ?_) ?_ (by kernel_rfl) (by kernel_rfl) (by kernel_rfl) (fun _ _ _ h => h) (Or.inl ⟨?_, ?_⟩) (by assumption) ?_
      rotate_left 2
      · (simp only [List.getElem?_toArray, List.getElem?_cons_succ, List.getElem?_cons_zero]; try rfl)
      · rfl
      · (intro W9 hSw; (try dsimp only at hSw); first | (go_simp; done) | (go_simp; with_reducible rfl))
      simp only [Act.put, List.setIfInBounds_toArray, List.set_cons_zero, List.set_cons_succ]
      refine wpAnyH_ready (rs := [24]) (by kernel_rfl) (by simp) ?_
      refine AllReadyH.cons (o := ?_) ?_ (fun K hK => ?_) AllReadyH.nil
      rotate_left 1
      · (simp only [List.getElem?_toArray, List.getElem?_cons_succ, List.getElem?_cons_zero]; try rfl)
      go_simp
      refine (eof_any _ _ _ _ _ _ H3.out.lp true rfl).mono ?_
      rintro e w7 ⟨rfl, rfl⟩
      try go_simp
      refine hK.out _ _ ⟨e0, e1, e2, e4, e5, m0, m1⟩ (fun hHeld => ?_)
      clear hK K
      refine wpAnyH_take (i := 25) (oi := ?_) (v := ?_) ?_ (by kernel_rfl) (by kernel_rfl) (by kernel_rfl) (fun _ _ _ h => h) (Or.inl ⟨?_, ?_⟩) (by assumption) ?_
      rotate_left 2
      · (simp only [List.getElem?_toArray, List.getElem?_cons_succ, List.getElem?_cons_zero]; try rfl)
      · rfl
      · (intro W9 hSw; (try dsimp only at hSw); first | (go_simp; done) | (go_simp; with_reducible rfl))
      simp only [Act.put, List.setIfInBounds_toArray, List.set_cons_zero, List.set_cons_succ]
      refine wpAnyH_take (i := 26) (oi := ?_) (v := ?_) ?_ (by kernel_rfl) (by kernel_rfl) (by kernel_rfl) (fun _ _ _ h => h) (Or.inl ⟨?_, ?_⟩) (by assumption) ?_
      rotate_left 2
      · (simp only [List.getElem?_toArray, List.getElem?_cons_succ, List.getElem?_cons_zero]; try rfl)
      · rfl
      · (intro W9 hSw; (try dsimp only at hSw); first | (go_simp; done) | (go_simp; with_reducible rfl))
      simp only [Act.put, List.setIfInBounds_toArray, List.set_cons_zero, List.set_cons_succ]
      refine wpAnyH_done (by kernel_rfl) ?_ _
      refine NoPanic.normal ?_
      have hF := H3.out.below
      go_wp2_with fail
      go_ret
      exact ⟨rfl, hF⟩
    · rw [hin] at hiff
      have hq := hiff.symm
      clear hiff
      go_enter Tryf.func3, Tryf.ntmps3
      go_wp2_with fail
      refine (newPos_any _ _ _ _ b2 b3 b4).mono ?_
      rintro e w1 ⟨rfl, hb1⟩
      go_wp2_with fail
      refine (nlp_any _ _).mono ?_
      rintro e w2 ⟨rfl, hlp, hb2, hs2⟩
      obtain ⟨m0, m1, -, -, -⟩ := slot_after hb2
      simp only [World.size_alloc] at hlp hs2
      have hz2 : w1.heap.size + 1 + 1 < w2.heap.size := by omega
      have hB2 : Below w.heap.size w w2 := below_next ((below_next (by go_grown) hb1).trans (by have := hb1.size; exact (Below.refl _ _).alloc this _)) hb2
      have hw1 : w.heap.size ≤ w1.heap.size := hb1.size
      clear hb1 hb2 hs2
      go_wp2_with fail
      refine (zcl_yes _ _ _ _ _ _ _ _ _ hlp hin).mono ?_
      rintro e w3 ⟨rfl, hlp3, hb3⟩
      have hB3 := below_next hB2 hb3
      have HP := Lib.hid hlp3
      clear hlp hlp3 hb3 hB2
      go_wp2_with fail
      refine (ein_nil _ _ _ _ _ HP.out).mono ?_
      rintro e w4 ⟨rfl, rfl⟩
      go_wp2_with fail
      refine (eof_any _ _ _ _ _ _ HP.out false rfl).mono ?_
      rintro e w4 ⟨rfl, rfl⟩
      go_wp2_with fail
      go_ret
      exact ⟨rfl, hB3⟩
  · go_enter Tryf.func3, Tryf.ntmps3
    go_wp2_with fail
    all_goals first | (go_ret; exact ⟨rfl, by go_grown⟩) | skip
end Go.Proofs.YthdbfebfgomnpaaFmt.fnCheckLangExact
