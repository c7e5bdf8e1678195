/- The walk of FnVisitArithmInlineTable: the Go text returns true. Conditions: none. -/
import Derived.Test.YtgeaokgcmhkoaaaVlaw
import Derived.OpenShut
import Derived.Deep.DeepCutAuto
import Derived.Deep.CutBlock
namespace Go.Proofs.Ytgeaokgcmhkoaaa.fnVisitArithmInlineTable
open Go.RowKit
set_option linter.unusedVariables false
set_option linter.unusedSimpArgs false

/-- what stands behind the switch over the leaf -/
def Leaf (w : World) (P l : Nat) (wv iv : Value) (V : World) : Prop := ∃ W : Nat, ∃ I : Bool, wv = .pointer (some ⟨W, 0, none⟩) ∧ iv = .bool I ∧ WordIs V W l I ∧ V.cell? ⟨P, 13, none⟩ = some (.pointer (some ⟨l, 0, none⟩)) ∧ (∃ C T, V.heap[W]? = some (.cells C T (0, 0))) ∧ Below w.heap.size w V
/-- what the loop builds: k parentheses around the word -/
def ELoop (V : World) (D W : Nat) (ev ov iv : Value) (wr : World) : Prop := ∃ k b : Nat, ∃ T, iv = .int .i64 k ∧ k ≤ D ∧ ev = .iface T (.pointer (some ⟨b, 0, none⟩)) ∧ Hid (Chain 48 wr V.heap.size wr.heap.size (.iface 42 (.pointer (some ⟨W, 0, none⟩))) k ev ∧ Below V.heap.size V wr ∧ ((k = 0 ∧ ev = .iface 42 (.pointer (some ⟨W, 0, none⟩)) ∧ ov = .pointer none) ∨ (0 < k ∧ T = 48 ∧ ov = .pointer (some ⟨b, 0, none⟩))))
/-- what stands behind the switch over the container -/
def After (V : World) (D W l : Nat) (I : Bool) (ev : Value) (sb c : Nat) (gv sv : Value) (U : World) : Prop :=
  (∃ b T, gv = .iface T (.pointer (some ⟨b, 0, none⟩))) ∧ ∃ st : Bool, sv = .bool st ∧ Below V.heap.size V U ∧ (((st = true ∨ D = 0) ∧ ∃ N, gv = .iface 42 (.pointer (some ⟨N, 0, none⟩)) ∧ Simp U sb c (decide (0 < D) || I) ∧ NewW U V.heap.size W N l I) ∨ (st = false ∧ 0 < D ∧ gv = ev ∧ Simp U sb c false))
theorem zv_post {V w : World} {sb c lo W l d o : Nat} {I m : Bool} {p x : Value} (h : Calls Try.prog 18 #[p, x] w (VPost V sb c lo W l d o I m)) : Calls Try.prog 9 #[p, x] w (VPost V sb c lo W l d o I m) :=
  zv_any p x w (fun w' => ∃ N, w'.cell? ⟨d, o, none⟩ = some (.iface 42 (.pointer (some ⟨N, 0, none⟩))) ∧ Simp w' sb c m ∧ NewW w' lo W N l I ∧ Below V.heap.size V w') h
theorem zv_bin {V w : World} {sb c lo W l d o : Nat} {I m : Bool} {p x : Value} {R : World → Prop} (h : Calls Try.prog 18 #[p, x] w (fun e w' => VPost V sb c lo W l d o I m e w' ∧ R w')) : Calls Try.prog 9 #[p, x] w (fun e w' => VPost V sb c lo W l d o I m e w' ∧ R w') :=
  (zv_any p x w (fun w' => (∃ N, w'.cell? ⟨d, o, none⟩ = some (.iface 42 (.pointer (some ⟨N, 0, none⟩))) ∧ Simp w' sb c m ∧ NewW w' lo W N l I ∧ Below V.heap.size V w') ∧ R w') (h.mono fun _ _ ⟨⟨h1, h2⟩, h3⟩ => ⟨h1, h2, h3⟩)).mono fun _ _ ⟨h1, h2, h3⟩ => ⟨⟨h1, h2⟩, h3⟩
theorem run_eql_word_other (w : World) (a b : Nat) (hne : a ≠ b) {CA CB : Array Value} {TA TB : TypeId} (ha : w.heap[a]? = some (.cells CA TA (0, 0))) (hb : w.heap[b]? = some (.cells CB TB (0, 0))) : (binOp .eql 42 (.pointer (some ⟨a, 0, none⟩)) (.pointer (some ⟨b, 0, none⟩))).run Try.prog w = .ok (.bool false) w := by
  have h : (Try.prog.info? 45).map (fun j => decide (j.size ≠ 0)) = some true := by kernel_rfl
  obtain ⟨j, hj, h2⟩ := Option.map_eq_some_iff.1 h
  exact run_eql_ptr_other w Try.underlying42 hj (by simpa using h2) (fun e => hne (by injection e)) ha hb
theorem word_pe {V : World} {W g P l : Nat} {s : ByteArray} {t I : Bool} (c0 : V.cell? ⟨W, 0, none⟩ = some (.slice (some ⟨g, 0, none⟩) 1 1)) (c1 : V.cell? ⟨g, 0, none⟩ = some (.iface 23 (.pointer (some ⟨P, 0, none⟩)))) (c2 : V.cell? ⟨P, 13, none⟩ = some (.pointer (some ⟨l, 0, none⟩))) (c3 : V.cell? ⟨l, 4, none⟩ = some (.string s)) (hs : s.size ≤ 1048576) (hI : (vnB s && t) = I) (hsim : SimpleIs V P t) : WordIs V W l I := by
  cases I
  · exact .inl ⟨rfl, g, 1, c0, by omega, fun _ => ⟨_, c1, .inr (.inr ⟨P, rfl, .inr ⟨l, s, t, ⟨c2, c3, hs, hsim⟩, hI⟩⟩)⟩⟩
  · have ht : t = true := by cases t <;> simp_all
    have hv : vnB s = true := by cases h : vnB s <;> simp_all
    subst ht
    exact .inr ⟨rfl, g, P, s, c0, c1, ⟨c2, c3, hs, hsim⟩, hv⟩
theorem word_lit {V : World} {W g b l : Nat} (c0 : V.cell? ⟨W, 0, none⟩ = some (.slice (some ⟨g, 0, none⟩) 1 1)) (c1 : V.cell? ⟨g, 0, none⟩ = some (.iface 24 (.pointer (some ⟨b, 0, none⟩)))) : WordIs V W l false :=
  .inl ⟨rfl, g, 1, c0, by omega, fun _ => ⟨_, c1, .inl ⟨b, rfl⟩⟩⟩
theorem word_two {V : World} {W g l : Nat} (c0 : V.cell? ⟨W, 0, none⟩ = some (.slice (some ⟨g, 0, none⟩) 2 2)) : WordIs V W l false :=
  .inl ⟨rfl, g, 2, c0, by omega, fun h => absurd h (by omega)⟩
set_option maxRecDepth 1000000 in
set_option maxHeartbeats 40000000 in
theorem main (ct : Int) (D : Nat) (lf : Int) (s : ByteArray) (w : World) (hct : 0 ≤ ct ∧ ct ≤ 255) (hlf : 0 ≤ lf ∧ lf ≤ 255) (hD : D ≤ 4096) (hs : s.size ≤ 4096) :
    Calls Try.prog 3 #[.int .u8 ct, .int .i64 D, .int .u8 lf, .string s] w fun e w' => e = .returned (.bool true) ∧ Below w.heap.size w w' := by
  have d1 : decide ((4096 : Int) < (D : Int)) = false := by simp; omega
  have d2 : decide ((D : Int) < 0) = false := by simp
  go_enter Try.func3, Try.ntmps3
  go_upto_block 0 with (go_at_call 5; go_in)
  go_cut [10, 11] (fun wv iv wx => Leaf w (w.heap.size + 1) w.heap.size wv iv wx)
  case first =>
    obtain ⟨K, eK⟩ : ∃ K, lf % 5 = K := ⟨_, rfl⟩
    have hK : K = 0 ∨ K = 1 ∨ K = 2 ∨ K = 3 ∨ K = 4 := by omega
    rcases hK with rfl | rfl | rfl | rfl | rfl
    · as_aux_lemma =>
        have e0 : (lf % 5 == 0) = true := by simp [eK]
        clear eK
        go_wp2_with (go_at_call 6; refine (vb9_any s _ hs).mono ?_; rintro e w' ⟨rfl, rfl⟩)
        go_meet
        refine ⟨w.heap.size + 1 + 1 + 1, _, rfl, rfl, word_pe (g := w.heap.size + 1 + 1) (P := w.heap.size + 1) (s := s) (by simp [go_sem]) (by simp [go_sem]) (by simp [go_sem]) (by simp [go_sem]) (by omega) (Bool.and_true _) (simple_0 (w.heap.size + 1) w.heap.size 0 _ ?_ ?_ ?_ ?_ ?_ ?_ ?_ ?_ ?_ ?_ ?_ ?_ ?_ ?_ ?_ ?_), by simp [go_sem], ⟨_, _, heap_new _ _ (by simp)⟩, by go_grown⟩
        all_goals simp [go_sem]
    · as_aux_lemma =>
        have e0 : (lf % 5 == 0) = false := by simp [eK]
        have e1 : (lf % 5 == 1) = true := by simp [eK]
        clear eK
        go_wp2_with fail
        go_meet
        refine ⟨w.heap.size + 1 + 1 + 1, _, rfl, rfl, word_pe (g := w.heap.size + 1 + 1) (P := w.heap.size + 1) (s := s) (by simp [go_sem]) (by simp [go_sem]) (by simp [go_sem]) (by simp [go_sem]) (by omega) (Bool.and_false _) (simple_2 (w.heap.size + 1) w.heap.size 0 _ ?_ ?_ ?_ ?_ ?_ ?_ ?_ ?_ ?_ ?_ ?_ ?_ ?_ ?_ ?_ ?_), by simp [go_sem], ⟨_, _, heap_new _ _ (by simp)⟩, by go_grown⟩
        all_goals simp [go_sem]
    · as_aux_lemma =>
        have e0 : (lf % 5 == 0) = false := by simp [eK]
        have e1 : (lf % 5 == 1) = false := by simp [eK]
        have e2 : (lf % 5 == 2) = true := by simp [eK]
        clear eK
        go_wp2_with (go_at_call 7; refine (lw_any _ _).mono ?_; rintro e w' ⟨rfl, rfl⟩)
        go_meet
        refine ⟨w.heap.size + 1 + 1 + 1 + 1 + 1 + 1, _, rfl, rfl, word_pe (g := w.heap.size + 1 + 1 + 1 + 1 + 1) (P := w.heap.size + 1) (s := s) (by simp [go_sem]) (by simp [go_sem]) (by simp [go_sem]) (by simp [go_sem]) (by omega) (Bool.and_false _) (simple_9 (w.heap.size + 1) w.heap.size (w.heap.size + 1 + 1 + 1 + 1) _ ?_ ?_ ?_ ?_ ?_ ?_ ?_ ?_ ?_ ?_ ?_ ?_ ?_ ?_ ?_ ?_), by simp [go_sem], ⟨_, _, heap_new _ _ (by simp)⟩, by go_grown⟩
        all_goals simp [go_sem]
    · as_aux_lemma =>
        have e0 : (lf % 5 == 0) = false := by simp [eK]
        have e1 : (lf % 5 == 1) = false := by simp [eK]
        have e2 : (lf % 5 == 2) = false := by simp [eK]
        have e3 : (lf % 5 == 3) = true := by simp [eK]
        clear eK
        go_wp2_with (go_at_call 7; refine (lw_any _ _).mono ?_; rintro e w' ⟨rfl, rfl⟩)
        go_meet
        refine ⟨_, _, rfl, rfl, word_lit (g := w.heap.size + 1 + 1 + 1) (b := w.heap.size + 1 + 1) (by simp [go_sem]) (by simp [go_sem]), by simp [go_sem], ⟨_, _, heap_new _ _ (by simp)⟩, by go_grown⟩
    · as_aux_lemma =>
        have e0 : (lf % 5 == 0) = false := by simp [eK]
        have e1 : (lf % 5 == 1) = false := by simp [eK]
        have e2 : (lf % 5 == 2) = false := by simp [eK]
        have e3 : (lf % 5 == 3) = false := by simp [eK]
        clear eK
        go_wp2_with fail
        go_meet
        refine ⟨_, _, rfl, rfl, word_two (g := w.heap.size + 1 + 1 + 1) (by simp [go_sem]), by simp [go_sem], ⟨_, _, heap_new _ _ (by simp)⟩, by go_grown⟩
  case rest =>
    obtain ⟨W, I, rfl, rfl, hW, hP, hH, hB⟩ := hcut
    obtain ⟨V0, eV0⟩ : ∃ V0 : World, V0 = wc := ⟨_, rfl⟩
    subst eV0
    have zW : W < V0.heap.size := by obtain ⟨C, T, h⟩ := hH; exact (Array.getElem?_eq_some_iff.1 h).1
    have HW := Lib.hid hW
    have HP := Lib.hid hP
    have HH := Lib.hid hH
    have HB := Lib.hid hB
    clear hW hP hH hB
    go_wp2_with fail
    go_loopw [12, 13, 14] (fun ev ov iv wr => ELoop V0 D W ev ov iv wr) (fun _ _ i _ => D - (intOf i).toNat)
    case atStart => exact ⟨0, W, _, rfl, Nat.zero_le _, rfl, Lib.hid ⟨rfl, Below.refl _ _, .inl ⟨rfl, rfl, rfl⟩⟩⟩
    case round =>
      obtain ⟨k, b, T, rfl, hk, rfl, HR⟩ := hrel
      by_cases hlt : k < D
      · go_wp2_with fail
        go_roundw
        case rel => exact ⟨k + 1, wr.heap.size, _, by go_num, by omega, rfl, Lib.hid ⟨⟨wr.heap.size, _, rfl, HR.out.2.1.size, by simp, by simp [go_sem], (HR.out.1.below ((Below.refl _ _).alloc (Nat.le_refl _) _)).wide (by simp)⟩, HR.out.2.1.alloc HR.out.2.1.size _, .inr ⟨by omega, rfl, rfl⟩⟩⟩
        case measure => simp [intOf]; omega
      · obtain rfl : k = D := by omega
        clear hlt
        have hz := HR.out.2.1.size
        go_wp2_with fail
        refine (news_any _).mono ?_
        rintro e w1 ⟨rfl, hS, hb1, hz1⟩
        have HS := Lib.hid hS
        have HCH := Lib.hid ((HR.out.1.below hb1).wide (hi' := wr.heap.size + 1) (by omega))
        have HV1 := Lib.hid (below_next HR.out.2.1 hb1)
        have HOV := Lib.hid HR.out.2.2
        clear hS hb1 HR
        go_upto_block 3 with fail
        go_cut [17, 18] (fun gv sv wx => After V0 k W w.heap.size I (.iface T (.pointer (some ⟨b, 0, none⟩))) (wr.heap.size + 1) wr.heap.size gv sv wx)
        case first =>
          obtain ⟨K, eK⟩ : ∃ K, ct % 5 = K := ⟨_, rfl⟩
          have hK : K = 0 ∨ K = 1 ∨ K = 2 ∨ K = 3 ∨ K = 4 := by omega
          rcases hK with rfl | rfl | rfl | rfl | rfl
          · as_aux_lemma =>
              have e0 : (ct % 5 == 0) = true := by simp [eK]
              clear eK
              go_wp2_with fail
              refine (zv_post (vis_exp (wr.heap.size + 1) wr.heap.size V0.heap.size W w.heap.size (wr.heap.size + 1 + 1) k _ I V0 _ HW.out (below_next HV1.out (by go_grown)) hz (HS.out.below (by go_grown)) (HCH.out.below (by go_grown)) (by omega) (by simp [go_sem, hz1]) (by simp [go_sem, hz1]))).mono ?_
              rintro e w2 ⟨rfl, N, hc, hS2, hN, hV2⟩
              have H2 := Lib.hid (And.intro hS2 (And.intro (hN.low (lo' := V0.heap.size) (by simp; omega)) hV2))
              have zd := World.block_lt_of_cell? _ _ hc
              simp only at zd
              clear hS2 hN hV2
              go_wp2_with fail
              go_meet
              exact ⟨⟨N, _, rfl⟩, true, rfl, H2.out.2.2, .inl ⟨.inl rfl, N, rfl, H2.out.1, H2.out.2.1⟩⟩
          · as_aux_lemma =>
              have e0 : (ct % 5 == 0) = false := by simp [eK]
              have e1 : (ct % 5 == 1) = true := by simp [eK]
              clear eK
              go_wp2_with fail
              refine (zv_post (vis_cmd (wr.heap.size + 1) wr.heap.size V0.heap.size W w.heap.size (wr.heap.size + 1 + 1) k _ I V0 _ HW.out (below_next HV1.out (by go_grown)) hz (HS.out.below (by go_grown)) (HCH.out.below (by go_grown)) (by omega) (by simp [go_sem, hz1]) (by simp [go_sem, hz1]))).mono ?_
              rintro e w2 ⟨rfl, N, hc, hS2, hN, hV2⟩
              have H2 := Lib.hid (And.intro hS2 (And.intro (hN.low (lo' := V0.heap.size) (by simp; omega)) hV2))
              have zd := World.block_lt_of_cell? _ _ hc
              simp only at zd
              clear hS2 hN hV2
              go_wp2_with fail
              go_meet
              exact ⟨⟨N, _, rfl⟩, true, rfl, H2.out.2.2, .inl ⟨.inl rfl, N, rfl, H2.out.1, H2.out.2.1⟩⟩
          · as_aux_lemma =>
              have e0 : (ct % 5 == 0) = false := by simp [eK]
              have e1 : (ct % 5 == 1) = false := by simp [eK]
              have e2 : (ct % 5 == 2) = true := by simp [eK]
              clear eK
              go_wp2_with fail
              refine (zv_post (vis_par (wr.heap.size + 1) wr.heap.size V0.heap.size W w.heap.size (wr.heap.size + 1 + 1) k _ I V0 _ HW.out (below_next HV1.out (by go_grown)) hz (HS.out.below (by go_grown)) (HCH.out.below (by go_grown)) (by omega) (by simp [go_sem, hz1]) (by simp [go_sem, hz1]))).mono ?_
              rintro e w2 ⟨rfl, N, hc, hS2, hN, hV2⟩
              have H2 := Lib.hid (And.intro hS2 (And.intro (hN.low (lo' := V0.heap.size) (by simp; omega)) hV2))
              have zd := World.block_lt_of_cell? _ _ hc
              simp only at zd
              clear hS2 hN hV2
              go_wp2_with fail
              go_meet
              exact ⟨⟨N, _, rfl⟩, true, rfl, H2.out.2.2, .inl ⟨.inl rfl, N, rfl, H2.out.1, H2.out.2.1⟩⟩
          · as_aux_lemma =>
              have e0 : (ct % 5 == 0) = false := by simp [eK]
              have e1 : (ct % 5 == 1) = false := by simp [eK]
              have e2 : (ct % 5 == 2) = false := by simp [eK]
              have e3 : (ct % 5 == 3) = true := by simp [eK]
              clear eK
              have nw := ne_Word
              have tw := as_ArithmExpr_Word_Word
              rcases HOV.out with ⟨rfl, e, rfl⟩ | ⟨hk0, rfl, rfl⟩
              · injection e with e1 e2
                injection e2 with e2
                injection e2 with e2
                injection e2 with e2
                have e3w : W = b := e2.symm
                subst e1 e3w
                go_wp2_with (go_at_call 7; refine (lw_any _ _).mono ?_; rintro e w' ⟨rfl, rfl⟩)
                refine (zv_bin (vis_binw (wr.heap.size + 1) wr.heap.size W w.heap.size (wr.heap.size + 1 + 1 + 1 + 1 + 1) (wr.heap.size + 1 + 1 + 1 + 1) (wr.heap.size + 1 + 1 + 1) (wr.heap.size + 1 + 1) (.iface 42 (.pointer (some ⟨W, 0, none⟩))) I V0 _ HW.out (below_next HV1.out (by go_grown)) hz (HS.out.below (by go_grown)) (by omega) (by simp [go_sem, hz1]) (by simp [go_sem, hz1]) (by simp [go_sem, hz1]) (by simp [go_sem, hz1]) (by simp [go_sem, hz1]) (by simp [go_sem, hz1]) (by omega) (by omega))).mono ?_
                rintro e w2 ⟨⟨rfl, N, hc, hS2, hN, hV2⟩, hc4⟩
                have H2 := Lib.hid (And.intro hS2 (And.intro (hN.low (lo' := V0.heap.size) (by simp; omega)) hV2))
                have zd := World.block_lt_of_cell? _ _ hc
                simp only at zd
                clear hS2 hN hV2
                go_wp2_with fail
                go_meet
                exact ⟨⟨N, _, rfl⟩, false, rfl, H2.out.2.2, .inl ⟨.inr rfl, N, rfl, by simpa using H2.out.1, H2.out.2.1⟩⟩
              · go_wp2_with (go_at_call 7; refine (lw_any _ _).mono ?_; rintro e w' ⟨rfl, rfl⟩)
                refine (zv_any _ _ _ (fun w' => w'.cell? ⟨wr.heap.size + 1 + 1 + 1 + 1 + 1, 3, none⟩ = some (.iface 48 (.pointer (some ⟨b, 0, none⟩))) ∧ Simp w' (wr.heap.size + 1) wr.heap.size false ∧ Below V0.heap.size V0 w' ∧ w'.cell? ⟨wr.heap.size + 1 + 1 + 1 + 1 + 1, 4, none⟩ = some (.iface 42 (.pointer (some ⟨wr.heap.size + 1 + 1 + 1 + 1, 0, none⟩)))) (vis_binp (wr.heap.size + 1) wr.heap.size W w.heap.size (wr.heap.size + 1 + 1 + 1 + 1 + 1) (wr.heap.size + 1 + 1 + 1 + 1) (wr.heap.size + 1 + 1 + 1) (wr.heap.size + 1 + 1) (.iface 48 (.pointer (some ⟨b, 0, none⟩))) I V0 _ ⟨b, rfl⟩ (below_next HV1.out (by go_grown)) hz (HS.out.below (by go_grown)) (by omega) (by simp [go_sem, hz1]) (by simp [go_sem, hz1]) (by simp [go_sem, hz1]) (by simp [go_sem, hz1]) (by simp [go_sem, hz1]) (by simp [go_sem, hz1]) (by omega) (by omega))).mono ?_
                rintro e w2 ⟨rfl, hc, hS2, hV2, hc4⟩
                have H2 := Lib.hid (And.intro hS2 hV2)
                have zd := World.block_lt_of_cell? _ _ hc
                simp only at zd
                clear hS2 hV2
                go_wp2_with fail
                go_meet
                exact ⟨⟨b, _, rfl⟩, false, rfl, H2.out.2, .inr ⟨rfl, hk0, rfl, H2.out.1⟩⟩
          · as_aux_lemma =>
              have e0 : (ct % 5 == 0) = false := by simp [eK]
              have e1 : (ct % 5 == 1) = false := by simp [eK]
              have e2 : (ct % 5 == 2) = false := by simp [eK]
              have e3 : (ct % 5 == 3) = false := by simp [eK]
              clear eK
              go_wp2_with fail
              refine (zv_bin (vis_pe (wr.heap.size + 1) wr.heap.size V0.heap.size W w.heap.size (wr.heap.size + 1 + 1 + 1 + 1) (wr.heap.size + 1 + 1 + 1) k _ I V0 _ HW.out (below_next HV1.out (by go_grown)) hz (HS.out.below (by go_grown)) (HCH.out.below (by go_grown)) (by omega) (by omega) (by simp [go_sem, hz1]) (by simp [go_sem, hz1]) (by simp [go_sem, hz1]) (by simp [go_sem, hz1]) (by simp [go_sem, hz1]) (by simp [go_sem, hz1]) (by simp [go_sem, hz1]))).mono ?_
              rintro e w2 ⟨⟨rfl, N, hc, hS2, hN, hV2⟩, c15, c17, c1⟩
              have H2 := Lib.hid (And.intro hS2 (And.intro (hN.low (lo' := V0.heap.size) (by simp; omega)) hV2))
              have zd := World.block_lt_of_cell? _ _ hc
              have zd2 := World.block_lt_of_cell? _ _ c15
              simp only at zd zd2
              clear hS2 hN hV2
              go_wp2_with fail
              go_meet
              exact ⟨⟨N, _, rfl⟩, true, rfl, H2.out.2.2, .inl ⟨.inl rfl, N, rfl, H2.out.1, H2.out.2.1⟩⟩
        case rest =>
          obtain ⟨⟨bg, Tg, rfl⟩, st, rfl, hVb, h⟩ := hcut
          have HVB := Lib.hid hVb
          have HP2 := Lib.hid (cell_below hVb HP.out)
          have HHW := Lib.hid (show ∃ C T, wc.heap[W]? = some (.cells C T (0, 0)) by obtain ⟨C, T, h⟩ := HH.out; exact ⟨C, T, by rw [hVb.5 W zW]; exact h⟩)
          clear hVb
          have tw := as_ArithmExpr_Word_Word
          have tp := as_ArithmExpr_ParenArithm_ParenArithm
          have tl := as_WordPart_Lit_Lit
          have qw := eq_Word
          have ql := eq_Lit
          have qp := eq_ParenArithm
          rcases h with ⟨hst, N, e, hS, hN⟩ | ⟨rfl, hk0, e, hS⟩
          · as_aux_lemma =>
              injection e with e1 e2
              injection e2 with e2
              injection e2 with e2
              injection e2 with e2
              subst e1 e2
              have HS2 := Lib.hid hS
              have HN := Lib.hid hN
              clear hS hN HS HCH HV1
              have hway : (st = true ∧ 0 < k) ∨ k = 0 := by rcases hst with h | h; (by_cases h0 : 0 < k; exact .inl ⟨h, h0⟩; right; omega); exact .inr h
              clear hst HOV
              rcases HN.out with ⟨rfl, rfl⟩ | ⟨rfl, hlN, g, C, TC, c0, c1, hg, hbN⟩
              · rcases hway with ⟨rfl, hk0⟩ | rfl
                · have hk1 : decide (0 < (k : Int)) = true := by simp; omega
                  have em : (decide (0 < k) || false) = true := by simp; omega
                  rw [em] at HS2
                  clear em
                  go_wp2_with (go_at_call 10; refine (zm_any _ _ _ _ HS2.out).mono ?_; rintro e w' ⟨rfl, rfl⟩)
                  go_ret
                  exact ⟨rfl, below_next HB.out HVB.out⟩
                · cases st
                  all_goals
                    go_wp2_with (go_at_call 10; refine (zm_any _ _ _ _ HS2.out).mono ?_; rintro e w' ⟨rfl, rfl⟩)
                    go_ret
                    exact ⟨rfl, below_next HB.out HVB.out⟩
              · have zN := World.block_lt_of_cell? _ _ c0
                have zg := World.block_lt_of_cell? _ _ c1
                have zP := World.block_lt_of_cell? _ _ HP2.out
                simp only at zN zg zP
                have c13 := HP2.out
                obtain ⟨CW, TCW, hbW⟩ := HHW.out
                have hne : bg ≠ W := by omega
                have hq := run_eql_word_other wc bg W hne hbN hbW
                have HNB := Lib.hid (And.intro hbN hbW)
                clear hbN hbW
                rw [Bool.or_true] at HS2
                rcases hway with ⟨rfl, hk0⟩ | rfl
                · have hk1 : decide (0 < (k : Int)) = true := by simp; omega
                  go_wp2_with (go_at_call 10; refine (zm_any _ _ _ _ HS2.out).mono ?_; rintro e w' ⟨rfl, rfl⟩)
                  go_ret
                  exact ⟨rfl, below_next HB.out HVB.out⟩
                · cases st
                  all_goals
                    go_wp2_with (go_at_call 10; refine (zm_any _ _ _ _ HS2.out).mono ?_; rintro e w' ⟨rfl, rfl⟩)
                    go_ret
                    exact ⟨rfl, below_next HB.out HVB.out⟩
          · as_aux_lemma =>
              injection e with e1 e2
              injection e2 with e2
              injection e2 with e2
              injection e2 with e2
              subst e1 e2
              have HS2 := Lib.hid hS
              have ho : Tg = 48 ∧ u13 = .pointer (some ⟨bg, 0, none⟩) := by rcases HOV.out with ⟨h, _⟩ | ⟨_, h1, h2⟩; omega; exact ⟨h1, h2⟩
              obtain ⟨rfl, rfl⟩ := ho
              have hk1 : decide (0 < (k : Int)) = true := by simp; omega
              clear hS HS HCH HV1
              go_wp2_with (go_at_call 10; refine (zm_any _ _ _ _ HS2.out).mono ?_; rintro e w' ⟨rfl, rfl⟩)
              go_ret
              exact ⟨rfl, below_next HB.out HVB.out⟩
set_option maxRecDepth 100000 in
set_option maxHeartbeats 4000000 in
theorem x0 (ct D lf : Int) (s : ByteArray) (w : World) (hs : s.size ≤ maxLen) (h : 4096 < s.size ∨ D < 0 ∨ 4096 < D) :
    Calls Try.prog 3 #[.int .u8 ct, .int .i64 D, .int .u8 lf, .string s] w fun e w' => e = .returned (.bool true) ∧ Below w.heap.size w w' := by
  unfold maxLen at hs
  by_cases h1 : 1048576 < s.size
  · have k : (1048576 : Int) < (s.size : Int) := by omega
    go_enter Try.func3, Try.ntmps3
    go_wp2_with (go_at_call 5; go_in)
    go_ret
    exact ⟨rfl, by go_grown⟩
  have k1 : (s.size : Int) ≤ (1048576 : Int) := by omega
  by_cases h2 : 4096 < s.size
  · have k : (4096 : Int) < (s.size : Int) := by omega
    go_enter Try.func3, Try.ntmps3
    go_wp2_with (go_at_call 5; go_in)
    go_ret
    exact ⟨rfl, by go_grown⟩
  have k2 : (s.size : Int) ≤ (4096 : Int) := by omega
  by_cases h3 : D < 0
  · have d : decide (D < 0) = true := by simp [h3]
    go_enter Try.func3, Try.ntmps3
    go_wp2_with (go_at_call 5; go_in)
    go_ret
    exact ⟨rfl, by go_grown⟩
  have d : decide (D < 0) = false := by simp; omega
  have d4 : decide (4096 < D) = true := by simp; omega
  go_enter Try.func3, Try.ntmps3
  go_wp2_with (go_at_call 5; go_in)
  go_ret
  exact ⟨rfl, by go_grown⟩
theorem walk (a0 : Int) (a1 : Int) (a2 : Int) (a3 : ByteArray) (w : World) (w0 : (Lit.int .u8 a0).wf = true) (w1 : (Lit.int .i64 a1).wf = true) (w2 : (Lit.int .u8 a2).wf = true) (w3 : a3.size ≤ maxLen) :
    Calls Try.prog 3 #[.int .u8 a0, .int .i64 a1, .int .u8 a2, .string a3] w fun e w' => e = .returned (.bool true) ∧ Below w.heap.size w w' := by
  have b0 := bounds_u8 w0
  have b1 := bounds_i64 w1
  have b2 := bounds_u8 w2
  clear w0 w1 w2
  by_cases h : 4096 < a3.size ∨ a1 < 0 ∨ 4096 < a1
  · exact x0 a0 a1 a2 a3 w w3 h
  · obtain ⟨D, rfl⟩ : ∃ D : Nat, a1 = D := ⟨a1.toNat, by omega⟩
    exact main a0 D a2 a3 w b0 b2 (by omega) (by omega)
end Go.Proofs.Ytgeaokgcmhkoaaa.fnVisitArithmInlineTable
