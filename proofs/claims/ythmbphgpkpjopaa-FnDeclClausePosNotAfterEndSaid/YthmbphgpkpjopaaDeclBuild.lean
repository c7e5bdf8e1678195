/- What zzBuildDecl makes: the clause's first word, and where its last argument ends. Conditions: the cells; positions in range. -/
import Derived.Test.YthmbphgpkpjopaaDeclFits
namespace Go.Proofs.Ythmbphgpkpjopaa.fnDeclClausePosNotAfterEnd
open Go.RowKit
set_option linter.unusedVariables false

set_option maxHeartbeats 400000 in
theorem mk_at (o l : Int) (w : World) : Calls Try.prog 24 #[.int .u32 o, .int .u32 l] w fun e w' => e = .returned (.agg #[.int .u32 o, .int .u32 l]) ∧ w' = w.alloc (.cells #[.int .u32 o, .int .u32 l] 25) := by
  go_enter Try.func24, Try.ntmps24
  go_wp2
  go_returns
  exact ⟨rfl, rfl⟩
/-- the element ends at an offset of at least m -/
def EndGe (m : Int) (lo : Nat) (x : Value) (W : World) : Prop := ∃ b o lc, x = .pointer (some ⟨b, 0, none⟩) ∧ PosOn Try.prog 26 b o lc lo W ∧ m ≤ o ∧ 0 ≤ o ∧ o ≤ 4294967284 ∧ 0 ≤ lc ∧ lc ≤ 4294967295
def DR (g : Nat) (m : Int) (n : Nat) (w0 : World) (v i : Value) (wr : World) : Prop :=
  ∃ k : Nat, i = .int .i64 k ∧ v = .slice (some ⟨g, 0, none⟩) k n ∧ LPart 50 (fun _ _ => True) (fun _ => EndGe m (g + 1)) n g w0 k wr
theorem infoA : (Try.prog.info? 50).map (fun i => (i.zero, i.size, i.bytes)) = some (some (.pointer none), 1, 8) := by kernel_rfl
theorem new_cell {U : World} {v : Value} {ad : Addr} (h : U.cell? (ad.add 0) = some v) : ∀ j u, [v][j]? = some u → U.cell? (ad.add j) = some u := by
  intro j u hj
  cases j with
  | zero => simp at hj; subst hj; exact h
  | succ j => simp at hj
theorem cells2 {wr U : World} {x y : Addr} {u v : Value} (h1 : wr.cell? x = some u) (h2 : wr.cell? y = some v) (hb : Below wr.heap.size wr U) : Below wr.heap.size wr U ∧ U.cell? x = some u ∧ U.cell? y = some v := ⟨hb, cell_later hb h1, cell_later hb h2⟩
theorem at_gen {G : World → Prop} {W : World} (R : World → Prop) (h : R W) (k : ∀ V, R V → G V) : G W := k W h
theorem keep_on {P : Program} {f b g lo : Nat} {o lc : Int} {U w4 : World} (hg : U.grownBy w4 (some g)) (hl : g < lo) (h : PosOn P f b o lc lo U) : PosOn P f b o lc lo w4 := h.keep (Keeps.of_grown hg hl)
theorem first_any {xs : List Value} {k : Nat} {wr : World} (h : xs.length = k) : 0 < k → ∃ x, xs[0]? = some x ∧ (fun (_ : Value) (_ : World) => True) x wr := fun h0 => ⟨xs[0]'(by omega), List.getElem?_eq_getElem (by omega), trivial⟩
theorem addO_ge (o lc : Int) (h : 0 ≤ o ∧ o ≤ 4294967284) (hl : 1 ≤ lc) : o ≤ addO o lc 1 ∧ addO o lc 1 ≤ 4294967284 := by
  have hv : validB o lc = true := by simp [validB]; omega
  rw [addO, if_pos hv]
  repeat' split
  all_goals omega
theorem keep6 {V U : World} {x y : Addr} {B C : Nat} {u v p q r s : Value} (h : V.cell? x = some u ∧ V.cell? y = some v ∧ V.cell? ⟨B, 0, none⟩ = some p ∧ V.cell? ⟨B, 1, none⟩ = some q ∧ V.cell? ⟨C, 0, none⟩ = some r ∧ V.cell? ⟨C, 1, none⟩ = some s) (hb : Below V.heap.size V U) :
    U.cell? x = some u ∧ U.cell? y = some v ∧ U.cell? ⟨B, 0, none⟩ = some p ∧ U.cell? ⟨B, 1, none⟩ = some q ∧ U.cell? ⟨C, 0, none⟩ = some r ∧ U.cell? ⟨C, 1, none⟩ = some s := by
  obtain ⟨h1, h2, h3, h4, h5, h6⟩ := h
  exact ⟨cell_later hb h1, cell_later hb h2, cell_later hb h3, cell_later hb h4, cell_later hb h5, cell_later hb h6⟩
theorem keep6g {V U W : World} {x y : Addr} {B C g : Nat} {u v p q r s : Value} (h : V.cell? x = some u ∧ V.cell? y = some v ∧ V.cell? ⟨B, 0, none⟩ = some p ∧ V.cell? ⟨B, 1, none⟩ = some q ∧ V.cell? ⟨C, 0, none⟩ = some r ∧ V.cell? ⟨C, 1, none⟩ = some s) (hg : U.grownBy W (some g)) (hx : x.block ≠ g) (hy : y.block ≠ g) (hB : B ≠ g) (hC : C ≠ g) (hb : Below V.heap.size V U) :
    W.cell? x = some u ∧ W.cell? y = some v ∧ W.cell? ⟨B, 0, none⟩ = some p ∧ W.cell? ⟨B, 1, none⟩ = some q ∧ W.cell? ⟨C, 0, none⟩ = some r ∧ W.cell? ⟨C, 1, none⟩ = some s := by
  obtain ⟨h1, h2, h3, h4, h5, h6⟩ := keep6 h hb
  exact ⟨hg.cell h1 (by simpa using hx), hg.cell h2 (by simpa using hy), hg.cell h3 (by simpa using hB), hg.cell h4 (by simpa using hB), hg.cell h5 (by simpa using hC), hg.cell h6 (by simpa using hC)⟩
theorem new2 (wr : World) (x y : Int) (t : TypeId) : ((wr.alloc (.cells #[.int .u32 x, .int .u32 y] t)).alloc (.cells #[.int .u32 x, .int .u32 y] t)).cell? ⟨wr.heap.size, 0, none⟩ = some (.int .u32 x) ∧ ((wr.alloc (.cells #[.int .u32 x, .int .u32 y] t)).alloc (.cells #[.int .u32 x, .int .u32 y] t)).cell? ⟨wr.heap.size, 1, none⟩ = some (.int .u32 y) ∧ ((wr.alloc (.cells #[.int .u32 x, .int .u32 y] t)).alloc (.cells #[.int .u32 x, .int .u32 y] t)).cell? ⟨wr.heap.size + 1, 0, none⟩ = some (.int .u32 x) ∧ ((wr.alloc (.cells #[.int .u32 x, .int .u32 y] t)).alloc (.cells #[.int .u32 x, .int .u32 y] t)).cell? ⟨wr.heap.size + 1, 1, none⟩ = some (.int .u32 y) := by
  refine ⟨?_, ?_, ?_, ?_⟩ <;> simp [go_sem]
theorem keep7 {wr U : World} {x y : Addr} {B C : Nat} {u v p q r s : Value} (h1 : wr.cell? x = some u) (h2 : wr.cell? y = some v) (k1 : U.cell? ⟨B, 0, none⟩ = some p) (k2 : U.cell? ⟨B, 1, none⟩ = some q) (k3 : U.cell? ⟨C, 0, none⟩ = some r) (k4 : U.cell? ⟨C, 1, none⟩ = some s) (hb : Below wr.heap.size wr U) :
    Below wr.heap.size wr U ∧ U.cell? x = some u ∧ U.cell? y = some v ∧ U.cell? ⟨B, 0, none⟩ = some p ∧ U.cell? ⟨B, 1, none⟩ = some q ∧ U.cell? ⟨C, 0, none⟩ = some r ∧ U.cell? ⟨C, 1, none⟩ = some s := ⟨hb, cell_later hb h1, cell_later hb h2, k1, k2, k3, k4⟩
set_option maxRecDepth 100000 in
set_option maxHeartbeats 4000000 in
theorem bd_any (o0 o1 o2 o3 : Int) (a0 a1 a2 a3 a4 a5 a6 : Option Addr) (n c0 c1 c2 c3 c4 c5 c6 : Nat) (f0 f1 f2 f3 f4 f5 f6 : Nat → Int) (w : World) (hn : n ≤ 65536) (i0 : IntIn .u8 w a0 n f0) (i1 : IntIn .u32 w a1 n f1) (i2 : IntIn .u32 w a2 n f2) (i3 : IntIn .u32 w a3 n f3) (i4 : IntIn .u32 w a4 n f4) (i5 : IntIn .u32 w a5 n f5) (i6 : IntIn .u32 w a6 n f6)
    (hk : ∀ i, i < n → 0 ≤ f0 i ∧ f0 i ≤ 255) (hr : ∀ i, i < n → (o2 ≤ f3 i ∧ 0 ≤ f3 i ∧ f3 i ≤ 4294967284) ∧ (1 ≤ f4 i ∧ f4 i ≤ 4294967295) ∧ (o2 ≤ f5 i ∧ 0 ≤ f5 i ∧ f5 i ≤ 4294967284) ∧ (1 ≤ f6 i ∧ f6 i ≤ 4294967295)) :
    Calls Try.prog 14 #[.int .u32 o0, .int .u32 o1, .int .u32 o2, .int .u32 o3, .slice a0 n c0, .slice a1 n c1, .slice a2 n c2, .slice a3 n c3, .slice a4 n c4, .slice a5 n c5, .slice a6 n c6, .int .i64 0] w fun e w' => ∃ d v g, e = .returned (.pointer (some ⟨d, 0, none⟩)) ∧ w'.cell? ⟨d, 0, none⟩ = some (.pointer (some ⟨v, 0, none⟩)) ∧ w'.cell? ⟨d, 1, none⟩ = some (.slice (some ⟨g, 0, none⟩) n n) ∧ w'.cell? ⟨v, 0, none⟩ = some (.int .u32 o0) ∧ w'.cell? ⟨v, 1, none⟩ = some (.int .u32 o1) ∧ w'.cell? ⟨v, 2, none⟩ = some (.int .u32 o2) ∧ w'.cell? ⟨v, 3, none⟩ = some (.int .u32 o3) ∧ (0 < n → ∃ x, w'.cell? ⟨g, n - 1, none⟩ = some x ∧ EndGe o2 0 x w') ∧ Below w.heap.size w w' := by
  have I0 := Lib.hid i0
  have I1 := Lib.hid i1
  have I2 := Lib.hid i2
  have I3 := Lib.hid i3
  have I4 := Lib.hid i4
  have I5 := Lib.hid i5
  have I6 := Lib.hid i6
  have HK := Lib.hid hk
  have HR := Lib.hid hr
  clear i0 i1 i2 i3 i4 i5 i6 hk hr
  obtain ⟨tA, hi, hz0, hz1, hz2⟩ := info_parts infoA
  have HI := Lib.hid (And.intro hi (And.intro hz1 hz2))
  have HZ := Lib.hid hz0
  clear hi hz0 hz1 hz2
  go_enter Try.func14, Try.ntmps14
  go_wp2_with (first | (go_at_call 24; (with_reducible refine (mk_at _ _ _).mono ?_); rintro e wM ⟨rfl, rfl⟩) | (at_make; (refine wpList_make_own _ rfl _ _ 49 rfl (w.heap.size + 1 + 1 + 1) 50 tA (.pointer none) 1 Try.underlying49 HI.out.1 HZ.out HI.out.2.1 _ _ _ n rfl rfl rfl (by rw [HI.out.2.2]; omega) (by unfold maxLen; omega) (by simp) ?_); intro w1 hown hgrow))
  obtain ⟨w3, hw3⟩ : ∃ w3, w3 = ((w.alloc (.cells #[.int .u32 o0, .int .u32 o1] 25)).alloc (.cells #[.int .u32 o2, .int .u32 o3] 25)).alloc (.cells #[.int .u32 o0, .int .u32 o1, .int .u32 o2, .int .u32 o3, .string ⟨#[100, 101, 99, 108, 97, 114, 101]⟩] 31) := ⟨_, rfl⟩
  have hz3 : w.heap.size + 1 + 1 + 1 = w3.heap.size := by rw [hw3]; simp
  have hw0 : Below w.heap.size w w3 := by rw [hw3]; go_grown
  have v0 : w3.cell? ⟨w.heap.size + 1 + 1, 0, none⟩ = some (.int .u32 o0) := by rw [hw3]; simp [go_sem]
  have v1 : w3.cell? ⟨w.heap.size + 1 + 1, 1, none⟩ = some (.int .u32 o1) := by rw [hw3]; simp [go_sem]
  have v2 : w3.cell? ⟨w.heap.size + 1 + 1, 2, none⟩ = some (.int .u32 o2) := by rw [hw3]; simp [go_sem]
  have v3 : w3.cell? ⟨w.heap.size + 1 + 1, 3, none⟩ = some (.int .u32 o3) := by rw [hw3]; simp [go_sem]
  rw [← hw3] at hgrow
  have hown : w1.ownsRow (w.heap.size + 1 + 1 + 1) 50 1 (.slice (some ⟨w.heap.size + 1 + 1 + 1, 0, none⟩) 0 n) 0 [] := by simpa using hown
  have hR : DR (w.heap.size + 1 + 1 + 1) o2 n w3 (.slice (some ⟨w.heap.size + 1 + 1 + 1, 0, none⟩) 0 n) (.int .i64 0) w1 := ⟨0, rfl, rfl, Nat.zero_le _, (Below.refl _ _).grown hgrow (by omega) (by simp), by have := (hown.lt (w.heap.size + 1 + 1 + 1) rfl).2; omega, [], hown, rfl, fun h => absurd h (by omega), fun h => absurd h (by omega)⟩
  have HRel := Lib.hid hR
  have HV := Lib.hid (And.intro v0 (And.intro v1 (And.intro v2 v3)))
  have Z3 := Lib.hid hz3
  have H0 := Lib.hid hw0
  clear hR hown hgrow hw3 v0 v1 v2 v3 hz3 hw0
  go_loopw [26, 27] (fun v i wr => DR (w.heap.size + 1 + 1 + 1) o2 n w3 v i wr) (fun _ i _ => n - (intOf i).toNat)
  case atStart => exact HRel.out
  case round =>
    obtain ⟨k, rfl, rfl, hk, hB, hgz, xs, hown, hlen, hF, hL⟩ := hrel
    have hBw : Below w.heap.size w wr := H0.out.trans (hB.mono (by have := H0.out.size; have := Z3.out; omega))
    clear HRel
    by_cases hlt : k < n
    · obtain ⟨x0, rfl, e0⟩ := I0.out k hlt
      obtain ⟨x1, rfl, e1⟩ := I1.out k hlt
      obtain ⟨x2, rfl, e2⟩ := I2.out k hlt
      obtain ⟨x3, rfl, e3⟩ := I3.out k hlt
      obtain ⟨x4, rfl, e4⟩ := I4.out k hlt
      obtain ⟨x5, rfl, e5⟩ := I5.out k hlt
      obtain ⟨x6, rfl, e6⟩ := I6.out k hlt
      have E0 := Lib.hid (cell_later hBw e0)
      have E1 := Lib.hid (cell_later hBw e1)
      have E2 := Lib.hid (cell_later hBw e2)
      have E3 := Lib.hid (cell_later hBw e3)
      have E4 := Lib.hid (cell_later hBw e4)
      have E5 := Lib.hid (cell_later hBw e5)
      have E6 := Lib.hid (cell_later hBw e6)
      have X5 := Lib.hid (show (x5.add k).block ≠ w.heap.size + 1 + 1 + 1 by have := World.block_lt_of_cell? _ _ e5; omega)
      have X6 := Lib.hid (show (x6.add k).block ≠ w.heap.size + 1 + 1 + 1 by have := World.block_lt_of_cell? _ _ e6; omega)
      have b1 : (0 : Int) ≤ (k : Int) := by omega
      have b2 : (k : Int) < (n : Int) := by omega
      obtain ⟨r3, r4, r5, r6⟩ := HR.out k hlt
      have hkd := HK.out k hlt
      have HO := Lib.hid hown
      have HL := Lib.hid hlen
      have HB := Lib.hid hB
      have HBW := Lib.hid hBw
      clear hown hlen hB hF hL hBw e0 e1 e2 e3 e4 e5 e6
      go_wp2_with fail
      go_region_held3 (fun U => Below wr.heap.size wr U ∧ U.cell? (x3.add k) = some (.int .u32 (f3 k)) ∧ U.cell? (x4.add k) = some (.int .u32 (f4 k)))
        (first | (refine cells2 E3.out E4.out ?_; go_grown; done))
        (first | (go_at_call 24; refine (mk_at _ _ _).mono ?_; rintro e wM ⟨rfl, rfl⟩))
      all_goals
        have E := Lib.hid (And.intro E1.out E2.out)
        go_wp2_with fail
        go_region_held3 (fun U => Below wr.heap.size wr U ∧ U.cell? (x1.add k) = some (.int .u32 (f1 k)) ∧ U.cell? (x2.add k) = some (.int .u32 (f2 k)) ∧ U.cell? ⟨wr.heap.size, 0, none⟩ = some (.int .u32 (f3 k)) ∧ U.cell? ⟨wr.heap.size, 1, none⟩ = some (.int .u32 (f4 k)) ∧ U.cell? ⟨wr.heap.size + 1, 0, none⟩ = some (.int .u32 (f3 k)) ∧ U.cell? ⟨wr.heap.size + 1, 1, none⟩ = some (.int .u32 (f4 k)))
          (first | (refine keep7 E1.out E2.out (cell_later (by go_grown) (new2 wr (f3 k) (f4 k) 25).1) (cell_later (by go_grown) (new2 wr (f3 k) (f4 k) 25).2.1) (cell_later (by go_grown) (new2 wr (f3 k) (f4 k) 25).2.2.1) (cell_later (by go_grown) (new2 wr (f3 k) (f4 k) 25).2.2.2) ?_; go_grown; done))
          (first | (go_at_call 24; refine (mk_at _ _ _).mono ?_; rintro e wM ⟨rfl, rfl⟩))
        refine at_gen (fun V => Below wr.heap.size wr V ∧ V.cell? ⟨wr.heap.size + 1 + 1 + 1, 2, none⟩ = some (.int .u32 (f3 k)) ∧ V.cell? ⟨wr.heap.size + 1 + 1 + 1, 3, none⟩ = some (.int .u32 (f4 k)) ∧ V.cell? ⟨wr.heap.size, 0, none⟩ = some (.int .u32 (f3 k)) ∧ V.cell? ⟨wr.heap.size, 1, none⟩ = some (.int .u32 (f4 k)) ∧ V.cell? ⟨wr.heap.size + 1, 0, none⟩ = some (.int .u32 (f3 k)) ∧ V.cell? ⟨wr.heap.size + 1, 1, none⟩ = some (.int .u32 (f4 k))) ⟨by go_grown, by simp [go_sem], by simp [go_sem], by simp [go_sem], by simp [go_sem], by simp [go_sem], by simp [go_sem]⟩ ?_
        rintro V ⟨hV, l2, l3, q0, q1, q2, q3⟩
        have C2 := Lib.hid l2
        have C3 := Lib.hid l3
        have HW := Lib.hid hV
        have zV := hV.size
        have zL := lt_cell l2
        have g0 := cell_later hV E0.out
        have Q := Lib.hid (And.intro (cell_later hV E5.out) (And.intro (cell_later hV E6.out) (And.intro q0 (And.intro q1 (And.intro q2 q3)))))
        clear l2 l3 hV q0 q1 q2 q3
        have hm3 : f0 k % 3 = 0 ∨ f0 k % 3 = 1 ∨ f0 k % 3 = 2 := by omega
        rcases hm3 with h3 | h3 | h3
        · go_wp2_with (first | (at_builtin; (refine wpList_append_fits _ rfl _ _ 49 rfl (w.heap.size + 1 + 1 + 1) 50 tA 1 Try.underlying49 HI.out.1 HI.out.2.1 (w.heap.size + 1 + 1 + 1) k n xs rfl (HO.out.kept (grown_of (below_next HW.out (by go_grown)) none) (.inr (by simp [Value.ownBlock]))) _ 1 1 [.pointer (some ⟨V.heap.size, 0, none⟩)] rfl rfl (new_cell (by simp [Addr.add, go_sem])) (by simp [Value.oneCell']) (by omega) ?_); intro w4 hown4 hg4))
          go_roundw
          case rel =>
            refine ⟨k + 1, by go_num, rfl, LPart.step hlt Z3.out HB.out hgz HL.out (first_any (wr := wr) HL.out) (below_next HW.out (by go_grown)) hown4 hg4 (fun _ _ _ _ h => h) (fun _ => trivial) ?_⟩
            exact ⟨_, _, _, rfl, keep_on hg4 (Nat.lt_succ_self _) (asEnd_naked (b := V.heap.size) (c := wr.heap.size + 1 + 1 + 1) (o := f3 k) (lc := f4 k) (lo := w.heap.size + 1 + 1 + 1 + 1) (by simp [go_sem]) (by simp [go_sem]) (by simp [go_sem]) (by simp [go_sem]) (by simp [go_sem]) (by omega) (litEnd_on (c := wr.heap.size + 1 + 1 + 1) (cell_later (by go_grown) C2.out) (cell_later (by go_grown) C3.out) (by omega))), by omega, by omega, by omega, by omega, by omega⟩
          case measure => simp [intOf]; omega
        · go_wp2_with (first | (at_builtin; (refine wpList_append_fits _ rfl _ _ 49 rfl (w.heap.size + 1 + 1 + 1) 50 tA 1 Try.underlying49 HI.out.1 HI.out.2.1 (w.heap.size + 1 + 1 + 1) k n xs rfl (HO.out.kept (grown_of (below_next HW.out (by go_grown)) none) (.inr (by simp [Value.ownBlock]))) _ 1 1 [.pointer (some ⟨V.heap.size, 0, none⟩)] rfl rfl (new_cell (by simp [Addr.add, go_sem])) (by simp [Value.oneCell']) (by omega) ?_); intro w4 hown4 hg4))
          go_roundw
          case rel =>
            refine ⟨k + 1, by go_num, rfl, LPart.step hlt Z3.out HB.out hgz HL.out (first_any (wr := wr) HL.out) (below_next HW.out (by go_grown)) hown4 hg4 (fun _ _ _ _ h => h) (fun _ => trivial) ?_⟩
            exact ⟨_, _, _, rfl, keep_on hg4 (Nat.lt_succ_self _) (asEnd_name (b := V.heap.size) (c := wr.heap.size + 1 + 1 + 1) (o := f3 k) (lc := f4 k) (lo := w.heap.size + 1 + 1 + 1 + 1) (by omega) (by omega) (by simp [go_sem]) (by simp [go_sem]) (by simp [go_sem]) (by simp [go_sem]) (by simp [go_sem]) (by omega) (litEnd_on (c := wr.heap.size + 1 + 1 + 1) (cell_later (by go_grown) C2.out) (cell_later (by go_grown) C3.out) (by omega))), by have := addO_ge (f3 k) (f4 k) (by omega) (by omega); omega, by have := addO_ge (f3 k) (f4 k) (by omega) (by omega); omega, by have := addO_ge (f3 k) (f4 k) (by omega) (by omega); omega, (addLc_in _ _ _ (by omega)).1, (addLc_in _ _ _ (by omega)).2⟩
          case measure => simp [intOf]; omega
        · go_wp2_with fail
          go_region_held3 (fun U => U.cell? (x5.add k) = some (.int .u32 (f5 k)) ∧ U.cell? (x6.add k) = some (.int .u32 (f6 k)) ∧ U.cell? ⟨wr.heap.size, 0, none⟩ = some (.int .u32 (f3 k)) ∧ U.cell? ⟨wr.heap.size, 1, none⟩ = some (.int .u32 (f4 k)) ∧ U.cell? ⟨wr.heap.size + 1, 0, none⟩ = some (.int .u32 (f3 k)) ∧ U.cell? ⟨wr.heap.size + 1, 1, none⟩ = some (.int .u32 (f4 k)))
            (first | (refine keep6g Q.out hg4 X5.out X6.out (by omega) (by omega) ?_; go_grown; done) | (refine keep6 Q.out ?_; go_grown; done))
            (first | (go_at_call 24; refine (mk_at _ _ _).mono ?_; rintro e wM ⟨rfl, rfl⟩) | (refine step_append_fits (by rfl) _ _ 49 (by rfl) (w.heap.size + 1 + 1 + 1) 50 tA 1 Try.underlying49 HI.out.1 HI.out.2.1 (w.heap.size + 1 + 1 + 1) k n xs (by rfl) (HO.out.kept (grown_of (below_next HW.out (by go_grown)) none) (.inr (by simp [Value.ownBlock]))) _ 1 1 [.pointer (some ⟨V.heap.size + 1 + 1, 0, none⟩)] (by rfl) rfl (new_cell (by simp [Addr.add, go_sem])) (by simp [Value.oneCell']) (by omega) ?_; intro w4 hown4 hg4))
          go_wp2_with fail
          go_roundw
          case rel =>
            refine ⟨k + 1, by go_num, rfl, LPart.step hlt Z3.out HB.out hgz HL.out (first_any (wr := wr) HL.out) (below_next HW.out (by go_grown)) hown4 hg4 (fun _ _ _ _ h => h) (fun _ => trivial) ?_⟩
            exact ⟨_, _, _, rfl, keep_on hg4 (Nat.lt_succ_self _) (asEnd_arr (b := V.heap.size + 1 + 1) (c := V.heap.size + 1) (o := f5 k) (lc := f6 k) (lo := w.heap.size + 1 + 1 + 1 + 1) (by omega) (by omega) (by simp [go_sem]) (by simp [go_sem]) (by simp [go_sem]) (by simp [go_sem]) (by omega) (by omega)), by have := addO_ge (f5 k) (f6 k) (by omega) (by omega); omega, by have := addO_ge (f5 k) (f6 k) (by omega) (by omega); omega, by have := addO_ge (f5 k) (f6 k) (by omega) (by omega); omega, (addLc_in _ _ _ (by omega)).1, (addLc_in _ _ _ (by omega)).2⟩
          case measure => simp [intOf]; omega
    · obtain rfl : k = n := by omega
      have LP : LPart 50 (fun _ _ => True) (fun _ => EndGe o2 (w.heap.size + 1 + 1 + 1 + 1)) k (w.heap.size + 1 + 1 + 1) w3 k wr := ⟨hk, hB, hgz, xs, hown, hlen, hF, hL⟩
      have HP := Lib.hid LP
      obtain ⟨v0, v1, v2, v3⟩ := HV.out
      have hz := lt_cell v0
      have e0 : ∀ {i : Nat} {v : Value}, w3.cell? ⟨w.heap.size + 1 + 1, i, none⟩ = some v → wr.cell? ⟨w.heap.size + 1 + 1, i, none⟩ = some v := fun h => by rw [hB.cell (p := ⟨w.heap.size + 1 + 1, _, none⟩) (by simp)]; exact h
      have Y := Lib.hid (And.intro (e0 v0) (And.intro (e0 v1) (And.intro (e0 v2) (e0 v3))))
      have HBW := Lib.hid hBw
      clear LP hown hlen hF hL hB v0 v1 v2 v3 e0 hBw
      go_wp2_with fail
      go_ret
      have hal : ∀ x, Below wr.heap.size wr (wr.alloc x) := fun x => (Below.refl _ _).alloc (Nat.le_refl _) _
      obtain ⟨y0, y1, y2, y3⟩ := Y.out
      refine ⟨_, w.heap.size + 1 + 1, w.heap.size + 1 + 1 + 1, rfl, by simp [go_sem], by simp [go_sem], cell_later (hal _) y0, cell_later (hal _) y1, cell_later (hal _) y2, cell_later (hal _) y3, fun h0 => ?_, below_next HBW.out (hal _)⟩
      obtain ⟨x, hx, b, o, lc, e, hp, hb⟩ := HP.out.last h0
      exact ⟨x, cell_later (hal _) hx, b, o, lc, e, (hp.less (Nat.zero_le _)).keep (Keeps.of_below (hal _)), hb⟩
end Go.Proofs.Ythmbphgpkpjopaa.fnDeclClausePosNotAfterEnd
