/- What the law's builder makes: a tree, its nodes in order, and which of them are to be kept. Conditions: at most 4096 bytes of code. -/
import Derived.Test.YtgeaokgcmhkoaaaTree
import Derived.Test.YtgeaokgcmhkoaaaVlaw
import Derived.Deep.QuietTactic
import Derived.BigQuiet
import Derived.Deep.DeepCutAuto
namespace Go.Proofs.Ytgeaokgcmhkoaaa
open Go.RowKit
set_option linter.unusedVariables false
set_option linter.unusedSimpArgs false

theorem infoIA : (Try.prog.info? 34).map (fun i => (i.zero, i.size, i.bytes)) = some (some .nilIface, 1, 16) := by kernel_rfl
theorem infoBl : (Try.prog.info? 4).map (fun i => (i.zero, i.size, i.bytes)) = some (some (.bool false), 1, 1) := by kernel_rfl
theorem Rep.form {W : World} {d : Nat} {r : Bool} {lo hi : Nat} {x : Value} {vs : List Value} {ws : List Bool} (h : Rep W d r lo hi x vs ws) : ∃ T b, x = .iface T (.pointer (some ⟨b, 0, none⟩)) := by
  cases d with
  | zero => exact h.elim
  | succ d => rcases h with ⟨b, e, _⟩ | ⟨b, m, x1, x2, v1, v2, w1, w2, e, _⟩ | ⟨b, x1, v1, w1, e, _⟩ | ⟨b, x1, v1, w1, e, _⟩ | ⟨b, x1, v1, w1, e, _⟩ <;> exact ⟨_, b, e⟩
theorem own_some {w : World} {b : Nat} {E : TypeId} {v : Value} {n : Nat} {xs : List Value} (h : w.ownsRow b E 1 v (n + 1) xs) : ∃ g cap, v = .slice (some ⟨g, 0, none⟩) (n + 1) cap := by
  rcases h.2 with ⟨_, h⟩ | ⟨g, cap, cur, rfl, _⟩
  · exact absurd h (by omega)
  · exact ⟨g, cap, rfl⟩
def DPost (B : Nat) (A : Option Addr) (L : Nat) (f : Nat → Int) (reach : Bool) (pos : Nat) (ns : List Value) (ws : List Bool) (W : World) (e : Ending) (w' : World) : Prop :=
  ∃ x vs us d pos' vn' vw', e = .returned x ∧ BSt B A L f pos' vn' vw' (ns ++ vs) (ws ++ us) w' ∧ Rep w' d reach W.heap.size w'.heap.size x vs us ∧ NK 0 W w' ∧ Below B W w' ∧ pos ≤ pos' ∧ vs.length ≤ 1 + 2 * (pos' - pos) ∧ us.length = vs.length
set_option maxRecDepth 1000000 in
set_option maxHeartbeats 8000000 in
theorem bd_end (B : Nat) (A : Option Addr) (L : Nat) (f : Nat → Int) (reach : Bool) (pos : Nat) (vn vw : Value) (ns : List Value) (ws : List Bool) (W : World) (hL : L ≤ pos) (hn : ns.length ≤ 20000) (hw : ws.length = ns.length) (h : BSt B A L f pos vn vw ns ws W) :
    Calls Try.prog 13 #[.pointer (some ⟨B, 0, none⟩), .bool reach] W (DPost B A L f reach pos ns ws W) := by
  have hd : decide ((pos : Int) < (L : Int)) = false := by simp; omega
  have HWL := Lib.hid hw
  have hwl : ws.length ≤ 20000 := by omega
  clear hw
  obtain ⟨iA, hi, hz0, hz1, hz2⟩ := info_parts infoIA
  have HI := Lib.hid (And.intro hi (And.intro hz1 hz2))
  have HZ := Lib.hid hz0
  clear hi hz0 hz1 hz2
  obtain ⟨iB, hi, hz0, hz1, hz2⟩ := info_parts infoBl
  have HJ := Lib.hid (And.intro hi (And.intro hz1 hz2))
  have HZJ := Lib.hid hz0
  clear hi hz0 hz1 hz2
  have c0 := h.1.1.1
  have c1 := h.1.1.2
  have z := h.lt
  have HBW := Lib.hid h
  clear h
  go_enter Try.func13, Try.ntmps13
  go_wp2_with fail
  go_quiet (fail)
  have hU : BSt B A L f pos vn vw ns ws (W.drewN nq) ∧ NK 0 W (W.drewN nq) ∧ Below B W (W.drewN nq) := ⟨HBW.out.below (below_drewN _ _), NK.below (below_drewN _ _), (below_drewN _ _).mono (by omega)⟩
  generalize W.drewN nq = U at hU ⊢
  have HB := Lib.hid hU.1
  have HNU := Lib.hid hU.2.1
  have HBU := Lib.hid hU.2.2
  have zWU := hU.2.2.size
  have zBU := hU.1.lt
  have u2 := hU.1.1.2.1
  have y1 : B < U.heap.size + 1 := by omega
  have y2 : B < U.heap.size + 1 + 1 := by omega
  have y3 : B < U.heap.size + 1 + 1 + 1 := by omega
  clear hU c0 c1 HBW
  have hbl : Below (U).heap.size (U) (((U.alloc (.cells #[.int .u32 0, .int .u32 0, .int .u32 0, .int .u32 0, .string ⟨#[105]⟩] 29)).alloc (.cells #[.iface 24 (.pointer (some ⟨U.heap.size, 0, none⟩))] 32)).alloc (.cells #[.slice (some ⟨U.heap.size + 1, 0, none⟩) 1 1] 45)) := by go_grown
  have HB1 := Lib.hid (HB.out.below hbl)
  have HNL := Lib.hid (NK.below (l := 0) hbl)
  have HCL := Lib.hid (show (((U.alloc (.cells #[.int .u32 0, .int .u32 0, .int .u32 0, .int .u32 0, .string ⟨#[105]⟩] 29)).alloc (.cells #[.iface 24 (.pointer (some ⟨U.heap.size, 0, none⟩))] 32)).alloc (.cells #[.slice (some ⟨U.heap.size + 1, 0, none⟩) 1 1] 45)).heap[U.heap.size + 1 + 1]? = some (.cells #[.slice (some ⟨U.heap.size + 1, 0, none⟩) 1 1] 45 (0, 0)) from heap_new _ _ (by simp))
  have HBL := Lib.hid hbl
  clear hbl
  go_wp2_with (first | (go_at_call 7; refine (lw_any _ _).mono ?_; rintro e w' ⟨rfl, rfl⟩) | (at_builtin; (refine wpList_append_own _ rfl _ _ 74 rfl (B + 1) 34 iA .nilIface 1 16 Try.underlying74 HI.out.1 HZ.out HI.out.2.1 HI.out.2.2 rfl (by decide) vn ns.length ns rfl ((HB1.out.below (by go_grown)).2.2.2.1.1) _ 1 1 [(.iface 42 (.pointer (some ⟨U.heap.size + 1 + 1, 0, none⟩)))] rfl rfl (by intro j u h; rcases j with _ | j <;> simp at h <;> (try subst h) <;> simp [Addr.add, go_sem]) (by simp [Value.oneCell']) (by unfold maxLen; omega) (by omega) (by have := HB1.out.lt; simp at this ⊢; omega) ?_); intro v1 w1 hown1 hg1 _; have hf := own_some hown1; obtain ⟨gn, cn, rfl⟩ := hf; have P1 := Lib.hid (BSt.push1 (x := (.iface 42 (.pointer (some ⟨U.heap.size + 1 + 1, 0, none⟩)))) HB1.out (by go_grown) hg1 hown1); have raw := HB1.out.raw (by go_grown) hg1 HB1.out.row1; obtain ⟨k0, k1, k2, k3, g1, g2, g3, z1⟩ := raw; clear hown1 hg1) | (at_builtin; (refine wpList_append_own _ rfl _ _ 75 rfl (B + 1) 4 iB (.bool false) 1 1 Try.underlying75 HJ.out.1 HZJ.out HJ.out.2.1 HJ.out.2.2 rfl (by decide) vw ws.length (ws.map Value.bool) rfl ((P1.out.1.below (by go_grown)).2.2.2.1.2) _ 1 1 [.bool false] rfl rfl (by intro j u h; rcases j with _ | j <;> simp at h <;> (try subst h) <;> simp [Addr.add, go_sem]) (by simp [Value.oneCell']) (by unfold maxLen; omega) (by omega) (by have := P1.out.1.lt; simp at this ⊢; omega) ?_); intro v2 w2 hown2 hg2 _; have hf := own_some hown2; obtain ⟨gw, cw, rfl⟩ := hf; have P2 := Lib.hid (BSt.push2 (x := false) P1.out.1 (by go_grown) hg2 hown2); have raw := P1.out.1.raw (by go_grown) hg2 P1.out.1.row2; obtain ⟨l0, l1, l2, l3, j1, j2, j3, z2⟩ := raw; clear hown2 hg2))
  go_ret
  have N2 := P1.out.2.1.trans P2.out.2.1
  have hC2 := N2 _ _ _ (Nat.zero_le _) HCL.out (.inl rfl)
  have hz := (Array.getElem?_eq_some_iff.1 hC2).1
  exact ⟨_, [_], [false], 1, pos, _, _, rfl, P2.out.1, .inl ⟨_, rfl, by omega, hz, ⟨_, hC2⟩, rfl, rfl⟩, HNU.out.trans (HNL.out.trans N2), ((HBU.out.trans (HBL.out.mono (by have := HB.out.lt; omega))).trans P1.out.2.2).trans P2.out.2.2, by omega, by simp, rfl⟩
set_option maxRecDepth 1000000 in
set_option maxHeartbeats 40000000 in
theorem bd_any (B : Nat) (A : Option Addr) (L : Nat) (f : Nat → Int) (hL4 : L ≤ 4096) (hf : ∀ i, i < L → 0 ≤ f i ∧ f i ≤ 255) (m : Nat) : ∀ (reach : Bool) (pos : Nat) (vn vw : Value) (ns : List Value) (ws : List Bool) (W : World), L - pos ≤ m → ns.length + 2 * (L - pos) ≤ 20000 → ws.length = ns.length → BSt B A L f pos vn vw ns ws W →
    Calls Try.prog 13 #[.pointer (some ⟨B, 0, none⟩), .bool reach] W (DPost B A L f reach pos ns ws W) := by
  induction m with
  | zero =>
    intro reach pos vn vw ns ws W hm hn hw h
    exact bd_end B A L f reach pos vn vw ns ws W (by omega) (by omega) hw h
  | succ m ih =>
    intro reach pos vn vw ns ws W hm hn hw h
    by_cases hp : pos < L
    case neg => exact bd_end B A L f reach pos vn vw ns ws W (by omega) (by omega) hw h
    have hd : decide ((pos : Int) < (L : Int)) = true := by simp; omega
    have HWL := Lib.hid hw
    have hwl : ws.length ≤ 20000 := by omega
    clear hw
    have hpi : (pos : Int) < (L : Int) := by omega
    have hpm : (pos : Int) ≤ 4096 := by omega
    obtain ⟨iA, hi, hz0, hz1, hz2⟩ := info_parts infoIA
    have HI := Lib.hid (And.intro hi (And.intro hz1 hz2))
    have HZ := Lib.hid hz0
    clear hi hz0 hz1 hz2
    obtain ⟨iB, hi, hz0, hz1, hz2⟩ := info_parts infoBl
    have HJ := Lib.hid (And.intro hi (And.intro hz1 hz2))
    have HZJ := Lib.hid hz0
    clear hi hz0 hz1 hz2
    obtain ⟨gA, eA, cA⟩ := h.2.2.1.1 pos hp
    obtain ⟨K, eK⟩ : ∃ K, f pos % 5 = K := ⟨_, rfl⟩
    have hfp := hf pos hp
    have hK : K = 0 ∨ K = 1 ∨ K = 2 ∨ K = 3 ∨ K = 4 := by omega
    have zA : gA < W.heap.size := by have := World.block_lt_of_cell? _ _ cA; simpa using this
    have c0 := h.1.1.1
    have c1 := h.1.1.2
    have f1 := h.2.1.1
    have z := h.lt
    have HBW := Lib.hid h
    have IH := Lib.hid ih
    clear h ih hf
    subst eA
    rcases hK with rfl | rfl | rfl | rfl | rfl
    · have e1 : (f pos % 5 == 1) = false := by simp [eK]
      have e2 : (f pos % 5 == 2) = false := by simp [eK]
      have e3 : (f pos % 5 == 3) = false := by simp [eK]
      have e4 : (f pos % 5 == 4) = false := by simp [eK]
      clear eK
      go_enter Try.func13, Try.ntmps13
      go_wp2_with fail
      go_quiet (fail)
      have h1 : BSt B (some ⟨gA, 0, none⟩) L f pos vn vw ns ws (W.drewN nq) ∧ NK 0 W (W.drewN nq) ∧ Below B W (W.drewN nq) ∧ (W.drewN nq).cell? ⟨gA, pos, none⟩ = some (.int .u8 (f pos)) := ⟨HBW.out.below (below_drewN _ _), NK.below (below_drewN _ _), (below_drewN _ _).mono (by omega), cA⟩
      generalize W.drewN nq = U1 at h1 ⊢
      clear c0 c1 cA f1 z zA
      have H1 := Lib.hid h1
      have c0 := h1.1.1.1.1
      have c1 := h1.1.1.1.2
      have cA := h1.2.2.2
      have z := h1.1.lt
      have zA : gA < U1.heap.size := by have := World.block_lt_of_cell? _ _ cA; simpa using this
      clear h1
      go_wp2_with fail
      go_quiet (fail)
      have h2 : BSt B (some ⟨gA, 0, none⟩) L f pos vn vw ns ws (U1.drewN nq) ∧ NK 0 W (U1.drewN nq) ∧ Below B W (U1.drewN nq) := ⟨H1.out.1.below (below_drewN _ _), H1.out.2.1.trans (NK.below (below_drewN _ _)), H1.out.2.2.1.trans ((below_drewN _ _).mono (by omega))⟩
      generalize U1.drewN nq = U0 at h2 ⊢
      clear c0 c1 cA z zA H1 HBW
      have zBU := h2.1.lt
      have c1 := h2.1.1.1.2
      have f1 := h2.1.2.1.1
      have H2 := Lib.hid h2
      clear h2
      go_upto_region 31 with fail
      refine wp_gen (fun U => BSt B (some ⟨gA, 0, none⟩) L f (pos + 1) vn vw ns ws U ∧ NK 0 W U ∧ Below B W U) ⟨H2.out.1.next hp, H2.out.2.1.trans (NK.setB H2.out.1.2.2.2.2.2), H2.out.2.2.setCell (p := ⟨B, 1, none⟩) (Nat.le_refl B) _⟩ ?_
      intro U h2
      have HB := Lib.hid h2.1
      have HNU := Lib.hid h2.2.1
      have HBU := Lib.hid h2.2.2
      clear c1 f1 zBU H2
      have zWU := h2.2.2.size
      have zBU := h2.1.lt
      have u2 := h2.1.1.2.1
      have y1 : B < U.heap.size + 1 := by omega
      have y2 : B < U.heap.size + 1 + 1 := by omega
      have y3 : B < U.heap.size + 1 + 1 + 1 := by omega
      clear h2
      have hbl : Below (U).heap.size (U) (((U.alloc (.cells #[.int .u32 0, .int .u32 0, .int .u32 0, .int .u32 0, .string ⟨#[105]⟩] 29)).alloc (.cells #[.iface 24 (.pointer (some ⟨U.heap.size, 0, none⟩))] 32)).alloc (.cells #[.slice (some ⟨U.heap.size + 1, 0, none⟩) 1 1] 45)) := by go_grown
      have HB1 := Lib.hid (HB.out.below hbl)
      have HNL := Lib.hid (NK.below (l := 0) hbl)
      have HCL := Lib.hid (show (((U.alloc (.cells #[.int .u32 0, .int .u32 0, .int .u32 0, .int .u32 0, .string ⟨#[105]⟩] 29)).alloc (.cells #[.iface 24 (.pointer (some ⟨U.heap.size, 0, none⟩))] 32)).alloc (.cells #[.slice (some ⟨U.heap.size + 1, 0, none⟩) 1 1] 45)).heap[U.heap.size + 1 + 1]? = some (.cells #[.slice (some ⟨U.heap.size + 1, 0, none⟩) 1 1] 45 (0, 0)) from heap_new _ _ (by simp))
      have HBL := Lib.hid hbl
      clear hbl
      go_wp2_with (first | (go_at_call 7; refine (lw_any _ _).mono ?_; rintro e w' ⟨rfl, rfl⟩) | (at_builtin; (refine wpList_append_own _ rfl _ _ 74 rfl (B + 1) 34 iA .nilIface 1 16 Try.underlying74 HI.out.1 HZ.out HI.out.2.1 HI.out.2.2 rfl (by decide) vn ns.length ns rfl ((HB1.out.below (by go_grown)).2.2.2.1.1) _ 1 1 [(.iface 42 (.pointer (some ⟨U.heap.size + 1 + 1, 0, none⟩)))] rfl rfl (by intro j u h; rcases j with _ | j <;> simp at h <;> (try subst h) <;> simp [Addr.add, go_sem]) (by simp [Value.oneCell']) (by unfold maxLen; omega) (by omega) (by have := HB1.out.lt; simp at this ⊢; omega) ?_); intro v1 w1 hown1 hg1 _; have hf := own_some hown1; obtain ⟨gn, cn, rfl⟩ := hf; have P1 := Lib.hid (BSt.push1 (x := (.iface 42 (.pointer (some ⟨U.heap.size + 1 + 1, 0, none⟩)))) HB1.out (by go_grown) hg1 hown1); have raw := HB1.out.raw (by go_grown) hg1 HB1.out.row1; obtain ⟨k0, k1, k2, k3, g1, g2, g3, z1⟩ := raw; clear hown1 hg1) | (at_builtin; (refine wpList_append_own _ rfl _ _ 75 rfl (B + 1) 4 iB (.bool false) 1 1 Try.underlying75 HJ.out.1 HZJ.out HJ.out.2.1 HJ.out.2.2 rfl (by decide) vw ws.length (ws.map Value.bool) rfl ((P1.out.1.below (by go_grown)).2.2.2.1.2) _ 1 1 [.bool false] rfl rfl (by intro j u h; rcases j with _ | j <;> simp at h <;> (try subst h) <;> simp [Addr.add, go_sem]) (by simp [Value.oneCell']) (by unfold maxLen; omega) (by omega) (by have := P1.out.1.lt; simp at this ⊢; omega) ?_); intro v2 w2 hown2 hg2 _; have hf := own_some hown2; obtain ⟨gw, cw, rfl⟩ := hf; have P2 := Lib.hid (BSt.push2 (x := false) P1.out.1 (by go_grown) hg2 hown2); have raw := P1.out.1.raw (by go_grown) hg2 P1.out.1.row2; obtain ⟨l0, l1, l2, l3, j1, j2, j3, z2⟩ := raw; clear hown2 hg2))
      go_ret
      have N2 := P1.out.2.1.trans P2.out.2.1
      have hC2 := N2 _ _ _ (Nat.zero_le _) HCL.out (.inl rfl)
      have hz := (Array.getElem?_eq_some_iff.1 hC2).1
      exact ⟨_, [_], [false], 1, pos + 1, _, _, rfl, P2.out.1, .inl ⟨_, rfl, by omega, hz, ⟨_, hC2⟩, rfl, rfl⟩, HNU.out.trans (HNL.out.trans N2), ((HBU.out.trans (HBL.out.mono (by have := HB.out.lt; omega))).trans P1.out.2.2).trans P2.out.2.2, by omega, by simp, rfl⟩
    · have e1 : (f pos % 5 == 1) = true := by simp [eK]
      clear eK
      go_enter Try.func13, Try.ntmps13
      go_wp2_with fail
      go_quiet (fail)
      have h1 : BSt B (some ⟨gA, 0, none⟩) L f pos vn vw ns ws (W.drewN nq) ∧ NK 0 W (W.drewN nq) ∧ Below B W (W.drewN nq) ∧ (W.drewN nq).cell? ⟨gA, pos, none⟩ = some (.int .u8 (f pos)) := ⟨HBW.out.below (below_drewN _ _), NK.below (below_drewN _ _), (below_drewN _ _).mono (by omega), cA⟩
      generalize W.drewN nq = U1 at h1 ⊢
      clear c0 c1 cA f1 z zA
      have H1 := Lib.hid h1
      have c0 := h1.1.1.1.1
      have c1 := h1.1.1.1.2
      have cA := h1.2.2.2
      have z := h1.1.lt
      have zA : gA < U1.heap.size := by have := World.block_lt_of_cell? _ _ cA; simpa using this
      clear h1
      go_wp2_with fail
      go_quiet (fail)
      have h2 : BSt B (some ⟨gA, 0, none⟩) L f pos vn vw ns ws (U1.drewN nq) ∧ NK 0 W (U1.drewN nq) ∧ Below B W (U1.drewN nq) := ⟨H1.out.1.below (below_drewN _ _), H1.out.2.1.trans (NK.below (below_drewN _ _)), H1.out.2.2.1.trans ((below_drewN _ _).mono (by omega))⟩
      generalize U1.drewN nq = U0 at h2 ⊢
      clear c0 c1 cA z zA H1 HBW
      have zBU := h2.1.lt
      have c1 := h2.1.1.1.2
      have f1 := h2.1.2.1.1
      have H2 := Lib.hid h2
      clear h2
      go_upto_region 7 with fail
      refine wp_gen (fun U => BSt B (some ⟨gA, 0, none⟩) L f (pos + 1) vn vw ns ws U ∧ NK 0 W U ∧ Below B W U) ⟨H2.out.1.next hp, H2.out.2.1.trans (NK.setB H2.out.1.2.2.2.2.2), H2.out.2.2.setCell (p := ⟨B, 1, none⟩) (Nat.le_refl B) _⟩ ?_
      intro U h2
      have HB := Lib.hid h2.1
      have HNU := Lib.hid h2.2.1
      have HBU := Lib.hid h2.2.2
      clear c1 f1 zBU H2
      have zWU := h2.2.2.size
      have zBU := h2.1.lt
      have u2 := h2.1.1.2.1
      have y1 : B < U.heap.size + 1 := by omega
      have y2 : B < U.heap.size + 1 + 1 := by omega
      have y3 : B < U.heap.size + 1 + 1 + 1 := by omega
      clear h2
      have hbl : Below (U).heap.size (U) (U.alloc (.cells #[.int .u32 0, .int .u32 0, .int .u32 81, .nilIface, .nilIface] 63)) := by go_grown
      have HB1 := Lib.hid (HB.out.below hbl)
      have HNL := Lib.hid (NK.below (l := 0) hbl)
      have HCL := Lib.hid (show (U.alloc (.cells #[.int .u32 0, .int .u32 0, .int .u32 81, .nilIface, .nilIface] 63)).heap[U.heap.size]? = some (.cells #[.int .u32 0, .int .u32 0, .int .u32 81, .nilIface, .nilIface] 63 (0, 0)) from heap_new _ _ (by simp))
      have HBL := Lib.hid hbl
      clear hbl
      go_wp2_with (first | (at_builtin; (refine wpList_append_own _ rfl _ _ 74 rfl (B + 1) 34 iA .nilIface 1 16 Try.underlying74 HI.out.1 HZ.out HI.out.2.1 HI.out.2.2 rfl (by decide) vn ns.length ns rfl ((HB1.out.below (by go_grown)).2.2.2.1.1) _ 1 1 [(.iface 60 (.pointer (some ⟨U.heap.size, 0, none⟩)))] rfl rfl (by intro j u h; rcases j with _ | j <;> simp at h <;> (try subst h) <;> simp [Addr.add, go_sem]) (by simp [Value.oneCell']) (by unfold maxLen; omega) (by omega) (by have := HB1.out.lt; simp at this ⊢; omega) ?_); intro v1 w1 hown1 hg1 _; have hf := own_some hown1; obtain ⟨gn, cn, rfl⟩ := hf; have P1 := Lib.hid (BSt.push1 (x := (.iface 60 (.pointer (some ⟨U.heap.size, 0, none⟩)))) HB1.out (by go_grown) hg1 hown1); have raw := HB1.out.raw (by go_grown) hg1 HB1.out.row1; obtain ⟨k0, k1, k2, k3, g1, g2, g3, z1⟩ := raw; clear hown1 hg1) | (at_builtin; (refine wpList_append_own _ rfl _ _ 75 rfl (B + 1) 4 iB (.bool false) 1 1 Try.underlying75 HJ.out.1 HZJ.out HJ.out.2.1 HJ.out.2.2 rfl (by decide) vw ws.length (ws.map Value.bool) rfl ((P1.out.1.below (by go_grown)).2.2.2.1.2) _ 1 1 [.bool reach] rfl rfl (by intro j u h; rcases j with _ | j <;> simp at h <;> (try subst h) <;> simp [Addr.add, go_sem]) (by simp [Value.oneCell']) (by unfold maxLen; omega) (by omega) (by have := P1.out.1.lt; simp at this ⊢; omega) ?_); intro v2 w2 hown2 hg2 _; have hf := own_some hown2; obtain ⟨gw, cw, rfl⟩ := hf; have P2 := Lib.hid (BSt.push2 (x := reach) P1.out.1 (by go_grown) hg2 hown2); have raw := P1.out.1.raw (by go_grown) hg2 P1.out.1.row2; obtain ⟨l0, l1, l2, l3, j1, j2, j3, z2⟩ := raw; clear hown2 hg2))
      have N2 := P1.out.2.1.trans P2.out.2.1
      have hC2 := N2 _ _ _ (Nat.zero_le _) HCL.out (.inr (.inl rfl))
      have hz2 := (Array.getElem?_eq_some_iff.1 hC2).1
      have HN2 := Lib.hid N2
      have HC2 := Lib.hid hC2
      clear N2 hC2
      refine (IH.out reach (pos + 1) _ _ (ns ++ [(.iface 60 (.pointer (some ⟨U.heap.size, 0, none⟩)))]) (ws ++ [reach]) _ (by omega) (by simp; omega) (by have := HWL.out; simp; omega) P2.out.1).mono ?_
      rintro e w3 ⟨x1, vs1, us1, d1, pos1, vn3, vw3, rfl, hB3, hR3, hN3, hL3, hp1, hl1, hu1⟩
      obtain ⟨T1, b1, rfl⟩ := hR3.form
      have hC3 := hN3 _ _ _ (Nat.zero_le _) HC2.out (.inr (.inl rfl))
      have c3 : w3.cell? ⟨U.heap.size, 3, none⟩ = some .nilIface := by simp [World.cell?, hC3]
      have f3 : w3.frozen? ⟨U.heap.size, 3, none⟩ = false := frozen_of_row _ _ _ _ _ hC3
      have zz3 := (Array.getElem?_eq_some_iff.1 hC3).1
      have hp1L := hB3.2.2.2.2.1
      have HB4 := Lib.hid (BSt.node (o := 3) (v := (.iface T1 (.pointer (some ⟨b1, 0, none⟩)))) hB3 hC3 (.inr (.inl rfl)) (by omega))
      have HC4 := Lib.hid (heap_setCell_same _ _ 3 _ _ (.iface T1 (.pointer (some ⟨b1, 0, none⟩))) hC3)
      have HN4 := Lib.hid (NK.set (n := U.heap.size) (o := 3) (v := (.iface T1 (.pointer (some ⟨b1, 0, none⟩)))) ((HNU.out.trans (HNL.out.trans HN2.out)).trans hN3) (by omega))
      have HL4 := Lib.hid ((((((HBU.out.trans (HBL.out.mono (by first | omega | (simp; omega)))).trans P1.out.2.2).trans P2.out.2.2).trans hL3).setCell (p := ⟨U.heap.size, 3, none⟩) (by show B ≤ U.heap.size; omega) (.iface T1 (.pointer (some ⟨b1, 0, none⟩)))))
      have HR4 := Lib.hid ((Rep.keep (l := U.heap.size + 1) (NK.past (W := w3) (o := 3) (v := (.iface T1 (.pointer (some ⟨b1, 0, none⟩))))) d1 reach _ _ _ _ vs1 us1 (by omega) (Nat.le_refl _) hR3).low (lo' := U.heap.size + 1) (by omega))
      have HU1 := Lib.hid hu1
      clear hB3 hR3 hN3 hL3 hC3 hu1 k0 k1 k2 k3 g1 g2 g3 l0 l1 l2 l3 j1 j2 j3 u2
      go_wp2_with fail
      refine (IH.out reach pos1 vn3 vw3 _ _ _ (by omega) (by simp; omega) (by have := HU1.out; have := HWL.out; simp; omega) HB4.out).mono ?_
      rintro e w5 ⟨x2, vs2, us2, d2, pos2, vn5, vw5, rfl, hB5, hR5, hN5, hL5, hp2, hl2, hu2⟩
      obtain ⟨T2, b2, rfl⟩ := hR5.form
      have hC5 := hN5 _ _ _ (Nat.zero_le _) HC4.out (.inr (.inl rfl))
      have c5 : w5.cell? ⟨U.heap.size, 4, none⟩ = some .nilIface := by simp [World.cell?, hC5]
      have c5b : w5.cell? ⟨U.heap.size, 3, none⟩ = some (.iface T1 (.pointer (some ⟨b1, 0, none⟩))) := by simp [World.cell?, hC5]
      have f5 : w5.frozen? ⟨U.heap.size, 4, none⟩ = false := frozen_of_row _ _ _ _ _ hC5
      have zz5 := (Array.getElem?_eq_some_iff.1 hC5).1
      have H5 := Lib.hid (And.intro hB5 (And.intro hR5 (And.intro hN5 (And.intro hL5 hC5))))
      have HU2 := Lib.hid hu2
      have zs5 := hL5.size
      simp at zs5
      clear hB5 hR5 hN5 hL5 hC5 hu2 c3 f3
      go_wp2_with fail
      go_ret
      refine ⟨_, (.iface 60 (.pointer (some ⟨U.heap.size, 0, none⟩))) :: (vs1 ++ vs2), reach :: (us1 ++ us2), max d1 d2 + 1, pos2, vn5, vw5, rfl, ?_, ?_, (HN4.out.trans H5.out.2.2.1).set (by omega), (HL4.out.trans H5.out.2.2.2.1).setCell (p := ⟨U.heap.size, 4, none⟩) (by show B ≤ U.heap.size; omega) _, by omega, by simp; omega, by simp [HU1.out, HU2.out]⟩
      · have h := BSt.node (o := 4) (v := (.iface T2 (.pointer (some ⟨b2, 0, none⟩)))) H5.out.1 H5.out.2.2.2.2 (.inr (.inl rfl)) (by omega)
        simpa [List.append_assoc] using h
      · refine .inr (.inl ⟨U.heap.size, w3.heap.size, (.iface T1 (.pointer (some ⟨b1, 0, none⟩))), (.iface T2 (.pointer (some ⟨b2, 0, none⟩))), vs1, vs2, us1, us2, rfl, by omega, by simpa using zz5, ⟨_, heap_setCell_same _ _ _ _ _ _ H5.out.2.2.2.2⟩, by simp [go_sem, c5b], by simp [go_sem, c5], ?_, ?_, rfl, rfl⟩)
        · exact Rep.deep d1 _ _ _ _ _ _ _ (by omega) (Rep.keep (l := U.heap.size + 1) NK.past d1 reach _ _ _ _ vs1 us1 (Nat.le_refl _) (Nat.le_refl _) (Rep.keep H5.out.2.2.1 d1 reach _ _ _ _ vs1 us1 (Nat.zero_le _) (Nat.le_refl _) HR4.out))
        · exact Rep.deep d2 _ _ _ _ _ _ _ (by omega) ((Rep.keep (l := U.heap.size + 1) NK.past d2 reach _ _ _ _ vs2 us2 (by simp; omega) (by simp) H5.out.2.1).low (by simp))
    · have e1 : (f pos % 5 == 1) = false := by simp [eK]
      have e2 : (f pos % 5 == 2) = true := by simp [eK]
      clear eK
      go_enter Try.func13, Try.ntmps13
      go_wp2_with fail
      go_quiet (fail)
      have h1 : BSt B (some ⟨gA, 0, none⟩) L f pos vn vw ns ws (W.drewN nq) ∧ NK 0 W (W.drewN nq) ∧ Below B W (W.drewN nq) ∧ (W.drewN nq).cell? ⟨gA, pos, none⟩ = some (.int .u8 (f pos)) := ⟨HBW.out.below (below_drewN _ _), NK.below (below_drewN _ _), (below_drewN _ _).mono (by omega), cA⟩
      generalize W.drewN nq = U1 at h1 ⊢
      clear c0 c1 cA f1 z zA
      have H1 := Lib.hid h1
      have c0 := h1.1.1.1.1
      have c1 := h1.1.1.1.2
      have cA := h1.2.2.2
      have z := h1.1.lt
      have zA : gA < U1.heap.size := by have := World.block_lt_of_cell? _ _ cA; simpa using this
      clear h1
      go_wp2_with fail
      go_quiet (fail)
      have h2 : BSt B (some ⟨gA, 0, none⟩) L f pos vn vw ns ws (U1.drewN nq) ∧ NK 0 W (U1.drewN nq) ∧ Below B W (U1.drewN nq) := ⟨H1.out.1.below (below_drewN _ _), H1.out.2.1.trans (NK.below (below_drewN _ _)), H1.out.2.2.1.trans ((below_drewN _ _).mono (by omega))⟩
      generalize U1.drewN nq = U0 at h2 ⊢
      clear c0 c1 cA z zA H1 HBW
      have zBU := h2.1.lt
      have c1 := h2.1.1.1.2
      have f1 := h2.1.2.1.1
      have H2 := Lib.hid h2
      clear h2
      go_upto_region 14 with fail
      refine wp_gen (fun U => BSt B (some ⟨gA, 0, none⟩) L f (pos + 1) vn vw ns ws U ∧ NK 0 W U ∧ Below B W U) ⟨H2.out.1.next hp, H2.out.2.1.trans (NK.setB H2.out.1.2.2.2.2.2), H2.out.2.2.setCell (p := ⟨B, 1, none⟩) (Nat.le_refl B) _⟩ ?_
      intro U h2
      have HB := Lib.hid h2.1
      have HNU := Lib.hid h2.2.1
      have HBU := Lib.hid h2.2.2
      clear c1 f1 zBU H2
      have zWU := h2.2.2.size
      have zBU := h2.1.lt
      have u2 := h2.1.1.2.1
      have y1 : B < U.heap.size + 1 := by omega
      have y2 : B < U.heap.size + 1 + 1 := by omega
      have y3 : B < U.heap.size + 1 + 1 + 1 := by omega
      clear h2
      have hbl : Below (U).heap.size (U) (U.alloc (.cells #[.int .u32 0, .int .u32 0, .int .u32 0, .int .u32 0, .nilIface] 50)) := by go_grown
      have HB1 := Lib.hid (HB.out.below hbl)
      have HNL := Lib.hid (NK.below (l := 0) hbl)
      have HCL := Lib.hid (show (U.alloc (.cells #[.int .u32 0, .int .u32 0, .int .u32 0, .int .u32 0, .nilIface] 50)).heap[U.heap.size]? = some (.cells #[.int .u32 0, .int .u32 0, .int .u32 0, .int .u32 0, .nilIface] 50 (0, 0)) from heap_new _ _ (by simp))
      have HBL := Lib.hid hbl
      clear hbl
      go_wp2_with (first | (at_builtin; (refine wpList_append_own _ rfl _ _ 74 rfl (B + 1) 34 iA .nilIface 1 16 Try.underlying74 HI.out.1 HZ.out HI.out.2.1 HI.out.2.2 rfl (by decide) vn ns.length ns rfl ((HB1.out.below (by go_grown)).2.2.2.1.1) _ 1 1 [(.iface 48 (.pointer (some ⟨U.heap.size, 0, none⟩)))] rfl rfl (by intro j u h; rcases j with _ | j <;> simp at h <;> (try subst h) <;> simp [Addr.add, go_sem]) (by simp [Value.oneCell']) (by unfold maxLen; omega) (by omega) (by have := HB1.out.lt; simp at this ⊢; omega) ?_); intro v1 w1 hown1 hg1 _; have hf := own_some hown1; obtain ⟨gn, cn, rfl⟩ := hf; have P1 := Lib.hid (BSt.push1 (x := (.iface 48 (.pointer (some ⟨U.heap.size, 0, none⟩)))) HB1.out (by go_grown) hg1 hown1); have raw := HB1.out.raw (by go_grown) hg1 HB1.out.row1; obtain ⟨k0, k1, k2, k3, g1, g2, g3, z1⟩ := raw; clear hown1 hg1) | (at_builtin; (refine wpList_append_own _ rfl _ _ 75 rfl (B + 1) 4 iB (.bool false) 1 1 Try.underlying75 HJ.out.1 HZJ.out HJ.out.2.1 HJ.out.2.2 rfl (by decide) vw ws.length (ws.map Value.bool) rfl ((P1.out.1.below (by go_grown)).2.2.2.1.2) _ 1 1 [.bool reach] rfl rfl (by intro j u h; rcases j with _ | j <;> simp at h <;> (try subst h) <;> simp [Addr.add, go_sem]) (by simp [Value.oneCell']) (by unfold maxLen; omega) (by omega) (by have := P1.out.1.lt; simp at this ⊢; omega) ?_); intro v2 w2 hown2 hg2 _; have hf := own_some hown2; obtain ⟨gw, cw, rfl⟩ := hf; have P2 := Lib.hid (BSt.push2 (x := reach) P1.out.1 (by go_grown) hg2 hown2); have raw := P1.out.1.raw (by go_grown) hg2 P1.out.1.row2; obtain ⟨l0, l1, l2, l3, j1, j2, j3, z2⟩ := raw; clear hown2 hg2))
      have N2 := P1.out.2.1.trans P2.out.2.1
      have hC2 := N2 _ _ _ (Nat.zero_le _) HCL.out (.inr (.inr (.inl rfl)))
      have hz2 := (Array.getElem?_eq_some_iff.1 hC2).1
      have HN2 := Lib.hid N2
      have HC2 := Lib.hid hC2
      clear N2 hC2
      refine (IH.out reach (pos + 1) _ _ (ns ++ [(.iface 48 (.pointer (some ⟨U.heap.size, 0, none⟩)))]) (ws ++ [reach]) _ (by omega) (by simp; omega) (by have := HWL.out; simp; omega) P2.out.1).mono ?_
      rintro e w3 ⟨x1, vs1, us1, d1, pos1, vn3, vw3, rfl, hB3, hR3, hN3, hL3, hp1, hl1, hu1⟩
      obtain ⟨T1, b1, rfl⟩ := hR3.form
      have hC3 := hN3 _ _ _ (Nat.zero_le _) HC2.out (.inr (.inr (.inl rfl)))
      have c3 : w3.cell? ⟨U.heap.size, 4, none⟩ = some .nilIface := by simp [World.cell?, hC3]
      have f3 : w3.frozen? ⟨U.heap.size, 4, none⟩ = false := frozen_of_row _ _ _ _ _ hC3
      have zz3 := (Array.getElem?_eq_some_iff.1 hC3).1
      have H3 := Lib.hid (And.intro hB3 (And.intro hR3 (And.intro hN3 (And.intro hL3 hC3))))
      have HU1 := Lib.hid hu1
      clear hB3 hR3 hN3 hL3 hC3 hu1 k0 k1 k2 k3 g1 g2 g3 l0 l1 l2 l3 j1 j2 j3 u2
      go_wp2_with fail
      go_ret
      refine ⟨_, (.iface 48 (.pointer (some ⟨U.heap.size, 0, none⟩))) :: vs1, reach :: us1, d1 + 1, pos1, vn3, vw3, rfl, ?_, ?_, ((HNU.out.trans (HNL.out.trans HN2.out)).trans H3.out.2.2.1).set (by omega), ((((HBU.out.trans (HBL.out.mono (by first | omega | (simp; omega)))).trans P1.out.2.2).trans P2.out.2.2).trans H3.out.2.2.2.1).setCell (p := ⟨U.heap.size, 4, none⟩) (by show B ≤ U.heap.size; omega) _, by omega, by simp; omega, by simp [HU1.out]⟩
      · have h := BSt.node (o := 4) (v := .iface T1 (.pointer (some ⟨b1, 0, none⟩))) H3.out.1 H3.out.2.2.2.2 (.inr (.inr (.inl rfl))) (by omega)
        simpa [List.append_assoc] using h
      · refine .inr (.inr (.inl ⟨U.heap.size, _, vs1, us1, rfl, by omega, by simpa using zz3, ⟨_, heap_setCell_same _ _ _ _ _ _ H3.out.2.2.2.2⟩, by simp [go_sem, c3], (Rep.keep (l := U.heap.size + 1) NK.past d1 reach _ _ _ _ vs1 us1 (by omega) (by simp) H3.out.2.1).low (by omega), rfl, rfl⟩))
    · have e1 : (f pos % 5 == 1) = false := by simp [eK]
      have e2 : (f pos % 5 == 2) = false := by simp [eK]
      have e3 : (f pos % 5 == 3) = true := by simp [eK]
      clear eK
      go_enter Try.func13, Try.ntmps13
      go_wp2_with fail
      go_quiet (fail)
      have h1 : BSt B (some ⟨gA, 0, none⟩) L f pos vn vw ns ws (W.drewN nq) ∧ NK 0 W (W.drewN nq) ∧ Below B W (W.drewN nq) ∧ (W.drewN nq).cell? ⟨gA, pos, none⟩ = some (.int .u8 (f pos)) := ⟨HBW.out.below (below_drewN _ _), NK.below (below_drewN _ _), (below_drewN _ _).mono (by omega), cA⟩
      generalize W.drewN nq = U1 at h1 ⊢
      clear c0 c1 cA f1 z zA
      have H1 := Lib.hid h1
      have c0 := h1.1.1.1.1
      have c1 := h1.1.1.1.2
      have cA := h1.2.2.2
      have z := h1.1.lt
      have zA : gA < U1.heap.size := by have := World.block_lt_of_cell? _ _ cA; simpa using this
      clear h1
      go_wp2_with fail
      go_quiet (fail)
      have h2 : BSt B (some ⟨gA, 0, none⟩) L f pos vn vw ns ws (U1.drewN nq) ∧ NK 0 W (U1.drewN nq) ∧ Below B W (U1.drewN nq) := ⟨H1.out.1.below (below_drewN _ _), H1.out.2.1.trans (NK.below (below_drewN _ _)), H1.out.2.2.1.trans ((below_drewN _ _).mono (by omega))⟩
      generalize U1.drewN nq = U0 at h2 ⊢
      clear c0 c1 cA z zA H1 HBW
      have zBU := h2.1.lt
      have c1 := h2.1.1.1.2
      have f1 := h2.1.2.1.1
      have H2 := Lib.hid h2
      clear h2
      go_upto_region 20 with fail
      refine wp_gen (fun U => BSt B (some ⟨gA, 0, none⟩) L f (pos + 1) vn vw ns ws U ∧ NK 0 W U ∧ Below B W U) ⟨H2.out.1.next hp, H2.out.2.1.trans (NK.setB H2.out.1.2.2.2.2.2), H2.out.2.2.setCell (p := ⟨B, 1, none⟩) (Nat.le_refl B) _⟩ ?_
      intro U h2
      have HB := Lib.hid h2.1
      have HNU := Lib.hid h2.2.1
      have HBU := Lib.hid h2.2.2
      clear c1 f1 zBU H2
      have zWU := h2.2.2.size
      have zBU := h2.1.lt
      have u2 := h2.1.1.2.1
      have y1 : B < U.heap.size + 1 := by omega
      have y2 : B < U.heap.size + 1 + 1 := by omega
      have y3 : B < U.heap.size + 1 + 1 + 1 := by omega
      clear h2
      have hbl : Below (U).heap.size (U) (U.alloc (.cells #[.int .u32 0, .int .u32 0, .int .u32 83, .bool false, .nilIface] 92)) := by go_grown
      have HB1 := Lib.hid (HB.out.below hbl)
      have HNL := Lib.hid (NK.below (l := 0) hbl)
      have HCL := Lib.hid (show (U.alloc (.cells #[.int .u32 0, .int .u32 0, .int .u32 83, .bool false, .nilIface] 92)).heap[U.heap.size]? = some (.cells #[.int .u32 0, .int .u32 0, .int .u32 83, .bool false, .nilIface] 92 (0, 0)) from heap_new _ _ (by simp))
      have HBL := Lib.hid hbl
      clear hbl
      go_wp2_with (first | (at_builtin; (refine wpList_append_own _ rfl _ _ 74 rfl (B + 1) 34 iA .nilIface 1 16 Try.underlying74 HI.out.1 HZ.out HI.out.2.1 HI.out.2.2 rfl (by decide) vn ns.length ns rfl ((HB1.out.below (by go_grown)).2.2.2.1.1) _ 1 1 [(.iface 89 (.pointer (some ⟨U.heap.size, 0, none⟩)))] rfl rfl (by intro j u h; rcases j with _ | j <;> simp at h <;> (try subst h) <;> simp [Addr.add, go_sem]) (by simp [Value.oneCell']) (by unfold maxLen; omega) (by omega) (by have := HB1.out.lt; simp at this ⊢; omega) ?_); intro v1 w1 hown1 hg1 _; have hf := own_some hown1; obtain ⟨gn, cn, rfl⟩ := hf; have P1 := Lib.hid (BSt.push1 (x := (.iface 89 (.pointer (some ⟨U.heap.size, 0, none⟩)))) HB1.out (by go_grown) hg1 hown1); have raw := HB1.out.raw (by go_grown) hg1 HB1.out.row1; obtain ⟨k0, k1, k2, k3, g1, g2, g3, z1⟩ := raw; clear hown1 hg1) | (at_builtin; (refine wpList_append_own _ rfl _ _ 75 rfl (B + 1) 4 iB (.bool false) 1 1 Try.underlying75 HJ.out.1 HZJ.out HJ.out.2.1 HJ.out.2.2 rfl (by decide) vw ws.length (ws.map Value.bool) rfl ((P1.out.1.below (by go_grown)).2.2.2.1.2) _ 1 1 [.bool false] rfl rfl (by intro j u h; rcases j with _ | j <;> simp at h <;> (try subst h) <;> simp [Addr.add, go_sem]) (by simp [Value.oneCell']) (by unfold maxLen; omega) (by omega) (by have := P1.out.1.lt; simp at this ⊢; omega) ?_); intro v2 w2 hown2 hg2 _; have hf := own_some hown2; obtain ⟨gw, cw, rfl⟩ := hf; have P2 := Lib.hid (BSt.push2 (x := false) P1.out.1 (by go_grown) hg2 hown2); have raw := P1.out.1.raw (by go_grown) hg2 P1.out.1.row2; obtain ⟨l0, l1, l2, l3, j1, j2, j3, z2⟩ := raw; clear hown2 hg2))
      have N2 := P1.out.2.1.trans P2.out.2.1
      have hC2 := N2 _ _ _ (Nat.zero_le _) HCL.out (.inr (.inr (.inr (.inl rfl))))
      have hz2 := (Array.getElem?_eq_some_iff.1 hC2).1
      have HN2 := Lib.hid N2
      have HC2 := Lib.hid hC2
      clear N2 hC2
      refine (IH.out reach (pos + 1) _ _ (ns ++ [(.iface 89 (.pointer (some ⟨U.heap.size, 0, none⟩)))]) (ws ++ [false]) _ (by omega) (by simp; omega) (by have := HWL.out; simp; omega) P2.out.1).mono ?_
      rintro e w3 ⟨x1, vs1, us1, d1, pos1, vn3, vw3, rfl, hB3, hR3, hN3, hL3, hp1, hl1, hu1⟩
      obtain ⟨T1, b1, rfl⟩ := hR3.form
      have hC3 := hN3 _ _ _ (Nat.zero_le _) HC2.out (.inr (.inr (.inr (.inl rfl))))
      have c3 : w3.cell? ⟨U.heap.size, 4, none⟩ = some .nilIface := by simp [World.cell?, hC3]
      have f3 : w3.frozen? ⟨U.heap.size, 4, none⟩ = false := frozen_of_row _ _ _ _ _ hC3
      have zz3 := (Array.getElem?_eq_some_iff.1 hC3).1
      have H3 := Lib.hid (And.intro hB3 (And.intro hR3 (And.intro hN3 (And.intro hL3 hC3))))
      have HU1 := Lib.hid hu1
      clear hB3 hR3 hN3 hL3 hC3 hu1 k0 k1 k2 k3 g1 g2 g3 l0 l1 l2 l3 j1 j2 j3 u2
      go_wp2_with fail
      go_ret
      refine ⟨_, (.iface 89 (.pointer (some ⟨U.heap.size, 0, none⟩))) :: vs1, false :: us1, d1 + 1, pos1, vn3, vw3, rfl, ?_, ?_, ((HNU.out.trans (HNL.out.trans HN2.out)).trans H3.out.2.2.1).set (by omega), ((((HBU.out.trans (HBL.out.mono (by first | omega | (simp; omega)))).trans P1.out.2.2).trans P2.out.2.2).trans H3.out.2.2.2.1).setCell (p := ⟨U.heap.size, 4, none⟩) (by show B ≤ U.heap.size; omega) _, by omega, by simp; omega, by simp [HU1.out]⟩
      · have h := BSt.node (o := 4) (v := .iface T1 (.pointer (some ⟨b1, 0, none⟩))) H3.out.1 H3.out.2.2.2.2 (.inr (.inr (.inr (.inl rfl)))) (by omega)
        simpa [List.append_assoc] using h
      · refine .inr (.inr (.inr (.inl ⟨U.heap.size, _, vs1, us1, rfl, by omega, by simpa using zz3, ⟨_, heap_setCell_same _ _ _ _ _ _ H3.out.2.2.2.2⟩, by simp [go_sem, c3], (Rep.keep (l := U.heap.size + 1) NK.past d1 reach _ _ _ _ vs1 us1 (by omega) (by simp) H3.out.2.1).low (by omega), rfl, rfl⟩)))
    · have e1 : (f pos % 5 == 1) = false := by simp [eK]
      have e2 : (f pos % 5 == 2) = false := by simp [eK]
      have e3 : (f pos % 5 == 3) = false := by simp [eK]
      have e4 : (f pos % 5 == 4) = true := by simp [eK]
      clear eK
      go_enter Try.func13, Try.ntmps13
      go_wp2_with fail
      go_quiet (fail)
      have h1 : BSt B (some ⟨gA, 0, none⟩) L f pos vn vw ns ws (W.drewN nq) ∧ NK 0 W (W.drewN nq) ∧ Below B W (W.drewN nq) ∧ (W.drewN nq).cell? ⟨gA, pos, none⟩ = some (.int .u8 (f pos)) := ⟨HBW.out.below (below_drewN _ _), NK.below (below_drewN _ _), (below_drewN _ _).mono (by omega), cA⟩
      generalize W.drewN nq = U1 at h1 ⊢
      clear c0 c1 cA f1 z zA
      have H1 := Lib.hid h1
      have c0 := h1.1.1.1.1
      have c1 := h1.1.1.1.2
      have cA := h1.2.2.2
      have z := h1.1.lt
      have zA : gA < U1.heap.size := by have := World.block_lt_of_cell? _ _ cA; simpa using this
      clear h1
      go_wp2_with fail
      go_quiet (fail)
      have h2 : BSt B (some ⟨gA, 0, none⟩) L f pos vn vw ns ws (U1.drewN nq) ∧ NK 0 W (U1.drewN nq) ∧ Below B W (U1.drewN nq) := ⟨H1.out.1.below (below_drewN _ _), H1.out.2.1.trans (NK.below (below_drewN _ _)), H1.out.2.2.1.trans ((below_drewN _ _).mono (by omega))⟩
      generalize U1.drewN nq = U0 at h2 ⊢
      clear c0 c1 cA z zA H1 HBW
      have zBU := h2.1.lt
      have c1 := h2.1.1.1.2
      have f1 := h2.1.2.1.1
      have H2 := Lib.hid h2
      clear h2
      go_upto_region 26 with fail
      refine wp_gen (fun U => BSt B (some ⟨gA, 0, none⟩) L f (pos + 1) vn vw ns ws U ∧ NK 0 W U ∧ Below B W U) ⟨H2.out.1.next hp, H2.out.2.1.trans (NK.setB H2.out.1.2.2.2.2.2), H2.out.2.2.setCell (p := ⟨B, 1, none⟩) (Nat.le_refl B) _⟩ ?_
      intro U h2
      have HB := Lib.hid h2.1
      have HNU := Lib.hid h2.2.1
      have HBU := Lib.hid h2.2.2
      clear c1 f1 zBU H2
      have zWU := h2.2.2.size
      have zBU := h2.1.lt
      have u2 := h2.1.1.2.1
      have y1 : B < U.heap.size + 1 := by omega
      have y2 : B < U.heap.size + 1 + 1 := by omega
      have y3 : B < U.heap.size + 1 + 1 + 1 := by omega
      clear h2
      have hbl : Below (U).heap.size (U) ((U.alloc (.cells #[.int .u32 0, .int .u32 0, .int .u32 0, .int .u32 0, .string ⟨#[107]⟩] 29)).alloc (.cells #[.pointer (some ⟨U.heap.size, 0, none⟩), .nilIface] 95)) := by go_grown
      have HB1 := Lib.hid (HB.out.below hbl)
      have HNL := Lib.hid (NK.below (l := 0) hbl)
      have HCL := Lib.hid (show ((U.alloc (.cells #[.int .u32 0, .int .u32 0, .int .u32 0, .int .u32 0, .string ⟨#[107]⟩] 29)).alloc (.cells #[.pointer (some ⟨U.heap.size, 0, none⟩), .nilIface] 95)).heap[U.heap.size + 1]? = some (.cells #[.pointer (some ⟨U.heap.size, 0, none⟩), .nilIface] 95 (0, 0)) from heap_new _ _ (by simp))
      have HBL := Lib.hid hbl
      clear hbl
      go_wp2_with (first | (at_builtin; (refine wpList_append_own _ rfl _ _ 74 rfl (B + 1) 34 iA .nilIface 1 16 Try.underlying74 HI.out.1 HZ.out HI.out.2.1 HI.out.2.2 rfl (by decide) vn ns.length ns rfl ((HB1.out.below (by go_grown)).2.2.2.1.1) _ 1 1 [(.iface 93 (.pointer (some ⟨U.heap.size + 1, 0, none⟩)))] rfl rfl (by intro j u h; rcases j with _ | j <;> simp at h <;> (try subst h) <;> simp [Addr.add, go_sem]) (by simp [Value.oneCell']) (by unfold maxLen; omega) (by omega) (by have := HB1.out.lt; simp at this ⊢; omega) ?_); intro v1 w1 hown1 hg1 _; have hf := own_some hown1; obtain ⟨gn, cn, rfl⟩ := hf; have P1 := Lib.hid (BSt.push1 (x := (.iface 93 (.pointer (some ⟨U.heap.size + 1, 0, none⟩)))) HB1.out (by go_grown) hg1 hown1); have raw := HB1.out.raw (by go_grown) hg1 HB1.out.row1; obtain ⟨k0, k1, k2, k3, g1, g2, g3, z1⟩ := raw; clear hown1 hg1) | (at_builtin; (refine wpList_append_own _ rfl _ _ 75 rfl (B + 1) 4 iB (.bool false) 1 1 Try.underlying75 HJ.out.1 HZJ.out HJ.out.2.1 HJ.out.2.2 rfl (by decide) vw ws.length (ws.map Value.bool) rfl ((P1.out.1.below (by go_grown)).2.2.2.1.2) _ 1 1 [.bool false] rfl rfl (by intro j u h; rcases j with _ | j <;> simp at h <;> (try subst h) <;> simp [Addr.add, go_sem]) (by simp [Value.oneCell']) (by unfold maxLen; omega) (by omega) (by have := P1.out.1.lt; simp at this ⊢; omega) ?_); intro v2 w2 hown2 hg2 _; have hf := own_some hown2; obtain ⟨gw, cw, rfl⟩ := hf; have P2 := Lib.hid (BSt.push2 (x := false) P1.out.1 (by go_grown) hg2 hown2); have raw := P1.out.1.raw (by go_grown) hg2 P1.out.1.row2; obtain ⟨l0, l1, l2, l3, j1, j2, j3, z2⟩ := raw; clear hown2 hg2))
      have N2 := P1.out.2.1.trans P2.out.2.1
      have hC2 := N2 _ _ _ (Nat.zero_le _) HCL.out (.inr (.inr (.inr (.inr rfl))))
      have hz2 := (Array.getElem?_eq_some_iff.1 hC2).1
      have HN2 := Lib.hid N2
      have HC2 := Lib.hid hC2
      clear N2 hC2
      refine (IH.out false (pos + 1) _ _ (ns ++ [(.iface 93 (.pointer (some ⟨U.heap.size + 1, 0, none⟩)))]) (ws ++ [false]) _ (by omega) (by simp; omega) (by have := HWL.out; simp; omega) P2.out.1).mono ?_
      rintro e w3 ⟨x1, vs1, us1, d1, pos1, vn3, vw3, rfl, hB3, hR3, hN3, hL3, hp1, hl1, hu1⟩
      obtain ⟨T1, b1, rfl⟩ := hR3.form
      have hC3 := hN3 _ _ _ (Nat.zero_le _) HC2.out (.inr (.inr (.inr (.inr rfl))))
      have c3 : w3.cell? ⟨U.heap.size + 1, 1, none⟩ = some .nilIface := by simp [World.cell?, hC3]
      have f3 : w3.frozen? ⟨U.heap.size + 1, 1, none⟩ = false := frozen_of_row _ _ _ _ _ hC3
      have zz3 := (Array.getElem?_eq_some_iff.1 hC3).1
      have H3 := Lib.hid (And.intro hB3 (And.intro hR3 (And.intro hN3 (And.intro hL3 hC3))))
      have HU1 := Lib.hid hu1
      clear hB3 hR3 hN3 hL3 hC3 hu1 k0 k1 k2 k3 g1 g2 g3 l0 l1 l2 l3 j1 j2 j3 u2
      go_wp2_with fail
      go_ret
      refine ⟨_, (.iface 93 (.pointer (some ⟨U.heap.size + 1, 0, none⟩))) :: vs1, false :: us1, d1 + 1, pos1, vn3, vw3, rfl, ?_, ?_, ((HNU.out.trans (HNL.out.trans HN2.out)).trans H3.out.2.2.1).set (by omega), ((((HBU.out.trans (HBL.out.mono (by first | omega | (simp; omega)))).trans P1.out.2.2).trans P2.out.2.2).trans H3.out.2.2.2.1).setCell (p := ⟨U.heap.size + 1, 1, none⟩) (by show B ≤ U.heap.size + 1; omega) _, by omega, by simp; omega, by simp [HU1.out]⟩
      · have h := BSt.node (o := 1) (v := .iface T1 (.pointer (some ⟨b1, 0, none⟩))) H3.out.1 H3.out.2.2.2.2 (.inr (.inr (.inr (.inr rfl)))) (by omega)
        simpa [List.append_assoc] using h
      · refine .inr (.inr (.inr (.inr ⟨U.heap.size + 1, _, vs1, us1, rfl, by omega, by simpa using zz3, ⟨_, heap_setCell_same _ _ _ _ _ _ H3.out.2.2.2.2⟩, (Rep.keep (l := U.heap.size + 1 + 1) NK.past d1 false _ _ _ _ vs1 us1 (by omega) (by simp) H3.out.2.1).low (by omega), rfl, rfl⟩)))
end Go.Proofs.Ytgeaokgcmhkoaaa

