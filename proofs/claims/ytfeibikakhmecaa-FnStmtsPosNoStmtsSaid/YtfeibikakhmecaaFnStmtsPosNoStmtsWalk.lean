/- The walk of FnStmtsPosNoStmts: the Go text returns true. Conditions: none. -/
import Derived.Test.YtfeibikakhmecaaCp
import Derived.OpenShut
namespace Go.Proofs.Ytfeibikakhmecaa.fnStmtsPosNoStmts
open Go.RowKit
set_option linter.unusedVariables false
set_option linter.unusedSimpArgs false

set_option maxHeartbeats 1000000 in
theorem zspos_none (S : Value) (hS : (∃ c, S = .slice none 0 c) ∨ ∃ q c, S = .slice (some q) 0 c) (A : Option Addr) (n : Nat) (f : Nat → RawC) (w : World) (h : IsHash w (.slice A n n) n f) :
    Calls Try.prog 13 #[S, .slice A n n] w fun e w' => e = .returned (.agg #[.int .u32 (if n = 0 then 0 else cO (f 0)), .int .u32 (if n = 0 then 0 else cL (f 0))]) ∧ Below w.heap.size w w' := by
  have HH := Lib.hid h
  obtain ⟨p, ep⟩ : ∃ p, (if n = 0 then 0 else cO (f 0)) = p := ⟨_, rfl⟩
  obtain ⟨q, eq⟩ : ∃ q, (if n = 0 then 0 else cL (f 0)) = q := ⟨_, rfl⟩
  rw [ep, eq]
  have HE := Lib.hid (And.intro ep eq)
  clear h ep eq
  go_enter Try.func13, Try.ntmps13
  go_wp2_with fail
  refine (spos_none S hS A n f _ (HH.out.below (by go_grown))).mono ?_
  rintro e w1 ⟨rfl, hb1⟩
  rw [HE.out.1, HE.out.2]
  have HS := Lib.hid ((SlotW.start w).below hb1)
  clear hb1
  obtain ⟨⟨x, y, k0, k1⟩, f0, f1, hB, zz⟩ := HS.out
  go_wp2_with fail
  refine bodyPost_ret (v := .agg #[.int .u32 p, .int .u32 q]) (by simp [results, Try.results13, go_sem, k0, k1, zz]) rfl ⟨rfl, ?_⟩
  first | exact HS.out.set | exact HS.out.drew.set
def rawB (l c : Int) : Bool := decide (1 ≤ l ∧ l ≤ 262143 ∨ 1 ≤ c ∧ c ≤ 16383)
set_option maxHeartbeats 1000000 in
theorem rv_any (o l c : Int) (w : World) (hl : 0 ≤ l ∧ l ≤ 4294967295) (hc : 0 ≤ c ∧ c ≤ 4294967295) :
    Calls Try.prog 16 #[.agg #[.int .u32 o, .int .u32 l, .int .u32 c]] w fun e w' => e = .returned (.bool (rawB l c)) ∧ Below w.heap.size w w' := by
  by_cases g1 : 1 ≤ l <;> by_cases g2 : l ≤ 262143 <;> by_cases g3 : 1 ≤ c <;> by_cases g4 : c ≤ 16383
  all_goals first
    | (exfalso; omega)
    | (go_enter Try.func16, Try.ntmps16
       go_wp2_with fail
       go_ret
       exact ⟨by simp [rawB, g1, g2, g3, g4], by go_grown⟩)
set_option maxHeartbeats 1000000 in
theorem ro_any (o l c : Int) (w : World) (ho : 0 ≤ o ∧ o ≤ 4294967295) :
    Calls Try.prog 18 #[.agg #[.int .u32 o, .int .u32 l, .int .u32 c]] w fun e w' => e = .returned (.int .u64 (offCap o)) ∧ Below w.heap.size w w' := by
  by_cases g1 : 4294967284 < o
  all_goals
    go_enter Try.func18, Try.ntmps18
    go_wp2_with fail
    go_ret
    refine ⟨ret_int ?_, by go_grown⟩
    unfold offCap
    split <;> omega
theorem valid_raw (o l c : Int) (ho : 0 ≤ o ∧ o ≤ 4294967295) (hl : 0 ≤ l ∧ l ≤ 4294967295) (hc : 0 ≤ c ∧ c ≤ 4294967295) : validB (offCap o) (lcOf l c) = rawB l c := by
  have h1 := offCap_in o ho.1
  unfold validB rawB
  have h2 : (lcOf l c ≠ 0) ↔ (1 ≤ l ∧ l ≤ 262143 ∨ 1 ≤ c ∧ c ≤ 16383) := by
    unfold lcOf lineIn colIn
    split <;> split <;> omega
  simp [h1.2, h2]
theorem off_cap (o : Int) (ho : 0 ≤ o) : offOf (offCap o) = offCap o := by
  have := offCap_in o ho
  unfold offOf
  rw [if_neg (by omega)]
theorem rv2_any (o l c : Int) (w : World) (ho : 0 ≤ o ∧ o ≤ 4294967295) (hl : 0 ≤ l ∧ l ≤ 4294967295) (hc : 0 ≤ c ∧ c ≤ 4294967295) :
    Calls Try.prog 16 #[.agg #[.int .u32 o, .int .u32 l, .int .u32 c]] w fun e w' => e = .returned (.bool (validB (offCap o) (lcOf l c))) ∧ Below w.heap.size w w' := by
  rw [valid_raw o l c ho hl hc]
  exact rv_any o l c w hl hc
theorem off2_any (o lc : Int) (w : World) (ho : 0 ≤ o ∧ o ≤ 4294967295) :
    Calls Try.prog 17 #[.agg #[.int .u32 (offCap o), .int .u32 lc]] w fun e w' => e = .returned (.int .u64 (offCap o)) ∧ Below w.heap.size w w' := by
  have h := offset_any (offCap o) lc w (by have := offCap_in o ho.1; omega)
  rw [off_cap o ho.1] at h
  exact h
set_option maxRecDepth 100000 in
set_option maxHeartbeats 4000000 in
theorem walk (a0 : Option Addr) (len0 cap0 : Nat) (z0 : Nat → RawC) (w : World) (w0 : IsComs w a0 len0 cap0 z0) :
    Calls Try.prog 4 #[.slice a0 len0 cap0] w fun e w' => e = .returned (.bool true) ∧ Below w.heap.size w w' := by
  have H := Lib.hid w0
  clear w0
  go_enter Try.func4, Try.ntmps4
  go_wp2_with fail
  refine (zb1_any a0 len0 cap0 z0 _ H.out).mono ?_
  rintro e w1 ⟨⟨b, rfl, hb⟩, hb1⟩
  have HB := Lib.hid hb
  have H1 := Lib.hid hb1
  clear hb hb1
  cases b
  · go_wp2_with fail
    go_ret
    exact ⟨rfl, H1.out⟩
  obtain ⟨hn, hs⟩ := HB.out rfl
  have HS := Lib.hid hs
  clear hs
  go_wp2_with fail
  refine (ztb_any none a0 0 0 len0 cap0 (fun _ => default) z0 _ _ (.inl ⟨rfl, rfl, rfl⟩) (H.out.below H1.out) (by decide) (fun i hi => absurd hi (by omega)) HS.out (by omega) hn).mono ?_
  rintro e w2 ⟨⟨b, rfl, hb⟩, hb2⟩
  have H2 := Lib.hid (below_next H1.out hb2)
  clear hb hb2
  cases b
  rotate_left
  · go_wp2_with fail
    go_ret
    exact ⟨rfl, H2.out⟩
  go_wp2_with fail
  refine (zc_any a0 len0 cap0 z0 _ (H.out.below H2.out) hn).mono ?_
  rintro e w3 ⟨A, rfl, hA, _, hb3⟩
  have HA := Lib.hid hA
  have H3 := Lib.hid (below_next H2.out hb3)
  clear hA hb3
  go_wp2_with fail
  refine (zspos_none _ (.inl ⟨0, rfl⟩) A len0 z0 _ HA.out).mono ?_
  rintro e w4 ⟨rfl, hb4⟩
  have HA4 := Lib.hid (HA.out.below hb4)
  have H4 := Lib.hid (below_next H3.out hb4)
  obtain ⟨p, ep⟩ : ∃ p, (if len0 = 0 then 0 else cO (z0 0)) = p := ⟨_, rfl⟩
  obtain ⟨q, eq⟩ : ∃ q, (if len0 = 0 then 0 else cL (z0 0)) = q := ⟨_, rfl⟩
  have HE := Lib.hid (And.intro ep eq)
  rw [ep, eq]
  clear hb4 HA H3 ep eq
  go_wp2_with fail
  refine (zspos_none _ (.inr ⟨_, 0, rfl⟩) A len0 z0 _ (HA4.out.below (by go_grown))).mono ?_
  rintro e w5 ⟨rfl, hb5⟩
  rw [HE.out.1, HE.out.2]
  have H5 := Lib.hid (show Below w.heap.size w w5 from below_next H4.out (below_next (by go_grown) hb5))
  have m0 : w5.cell? ⟨w4.heap.size, 0, none⟩ = some (.int .u32 p) := cell_below hb5 (cell_alloc (by simp [go_sem]))
  have m1 : w5.cell? ⟨w4.heap.size, 1, none⟩ = some (.int .u32 q) := cell_below hb5 (cell_alloc (by simp [go_sem]))
  have zm := World.block_lt_of_cell? _ _ m0
  simp only at zm
  clear hb5
  by_cases hz : len0 = 0
  · obtain ⟨e1, e2⟩ := HE.out
    rw [if_pos hz] at e1 e2
    subst e1 e2
    have hz' : (len0 : Int) = 0 := by omega
    clear HE
    go_wp2_with fail
    refine (isValid_any 0 0 _ (by omega) (by omega)).mono ?_
    rintro e w6 ⟨rfl, hb6⟩
    have H6 := Lib.hid (show Below w.heap.size w w6 from below_next H5.out (below_next (by go_grown) hb6))
    clear hb6
    rw [valid00]
    go_wp2_with fail
    go_ret
    exact ⟨rfl, H6.out⟩
  · obtain ⟨e1, e2⟩ := HE.out
    rw [if_neg hz] at e1 e2
    subst e1 e2
    obtain ⟨b, o, rfl, h0, hl, hm, hx⟩ : ∃ b o : Nat, a0 = some ⟨b, o, none⟩ ∧ 0 < len0 ∧ len0 ≤ cap0 ∧ cap0 ≤ maxLen ∧ ∀ i, i < len0 → ComAt w b o i (z0 i) ∧ (z0 i).ok := by
      rcases H.out with ⟨_, h, _⟩ | ⟨_, _, h, _⟩ | h
      · exact absurd h hz
      · exact absurd h hz
      · exact h
    obtain ⟨⟨c0, c1, c2, _⟩, q0, q1, q2, _⟩ := hx 0 h0
    rw [Nat.zero_mul, Nat.add_zero] at c0 c1 c2
    have c0 := cell_below H5.out c0
    have c1 := cell_below H5.out c1
    have c2 := cell_below H5.out c2
    have zb := World.block_lt_of_cell? _ _ c0
    simp only at zb
    have hz' : (0 : Int) < (len0 : Int) := by omega
    clear HE hx
    change w5.cell? ⟨w4.heap.size, 0, none⟩ = some (.int .u32 (offCap (z0 0).o)) at m0
    change w5.cell? ⟨w4.heap.size, 1, none⟩ = some (.int .u32 (lcOf (z0 0).l (z0 0).c)) at m1
    have hpo : 0 ≤ offCap (z0 0).o ∧ offCap (z0 0).o ≤ 4294967295 := by have := offCap_in (z0 0).o q0.1; omega
    have hpl := lcOf_in (z0 0).l (z0 0).c q1.1 q2.1
    have HC := Lib.hid (show ∀ W, Below w5.heap.size w5 W → W.cell? ⟨b, o, none⟩ = some (.int .u32 (z0 0).o) ∧ W.cell? ⟨b, o + 1, none⟩ = some (.int .u32 (z0 0).l) ∧ W.cell? ⟨b, o + 2, none⟩ = some (.int .u32 (z0 0).c) ∧ W.cell? ⟨w4.heap.size, 0, none⟩ = some (.int .u32 (offCap (z0 0).o)) ∧ W.cell? ⟨w4.heap.size, 1, none⟩ = some (.int .u32 (lcOf (z0 0).l (z0 0).c)) ∧ b < W.heap.size ∧ w4.heap.size < W.heap.size from fun W hW => ⟨cell_below hW c0, cell_below hW c1, cell_below hW c2, cell_below hW m0, cell_below hW m1, Nat.lt_of_lt_of_le zb hW.size, Nat.lt_of_lt_of_le zm hW.size⟩)
    go_wp2_with fail
    refine wp_gen (fun V => Below w5.heap.size w5 V) (by go_grown) ?_
    intro V hV
    have hS := Lib.hid hV
    clear hV c0 c1 c2 m0 m1 zb zm
    obtain ⟨c0, c1, c2, m0, m1, zb, zm⟩ := HC.out _ hS.out
    go_region_held3 (fun W9 => Hid (Below w5.heap.size w5 W9) ∧ W9.cell? ⟨b, o, none⟩ = some (.int .u32 (z0 0).o) ∧ W9.cell? ⟨b, o + 1, none⟩ = some (.int .u32 (z0 0).l) ∧ W9.cell? ⟨b, o + 2, none⟩ = some (.int .u32 (z0 0).c) ∧ W9.cell? ⟨w4.heap.size, 0, none⟩ = some (.int .u32 (offCap (z0 0).o)) ∧ W9.cell? ⟨w4.heap.size, 1, none⟩ = some (.int .u32 (lcOf (z0 0).l (z0 0).c)) ∧ b < W9.heap.size ∧ w4.heap.size < W9.heap.size)
      (first | exact ⟨hS, c0, c1, c2, m0, m1, zb, zm⟩ | (have hS9 := Lib.hid (below_next hS.out (below_drew _)); obtain ⟨c0, c1, c2, m0, m1, zb, zm⟩ := HC.out _ hS9.out; exact ⟨hS9, c0, c1, c2, m0, m1, zb, zm⟩))
      (first | (go_at_call 15; refine (zpos_any (z0 0).o (z0 0).l (z0 0).c _ q0 q1 q2).mono ?_; rintro e wN ⟨rfl, hbN⟩; have hS := Lib.hid (below_next (Hid.out (And.left (by assumption))) hbN); clear hbN; obtain ⟨c0, c1, c2, m0, m1, zb, zm⟩ := HC.out _ hS.out) | (go_at_call 14; refine (isValid_any (offCap (z0 0).o) (lcOf (z0 0).l (z0 0).c) _ hpo hpl).mono ?_; rintro e wN ⟨rfl, hbN⟩; have hS := Lib.hid (below_next (Hid.out (And.left (by assumption))) hbN); clear hbN; obtain ⟨c0, c1, c2, m0, m1, zb, zm⟩ := HC.out _ hS.out) | (go_at_call 16; refine (rv2_any (z0 0).o (z0 0).l (z0 0).c _ q0 q1 q2).mono ?_; rintro e wN ⟨rfl, hbN⟩; have hS := Lib.hid (below_next (Hid.out (And.left (by assumption))) hbN); clear hbN; obtain ⟨c0, c1, c2, m0, m1, zb, zm⟩ := HC.out _ hS.out) | (go_at_call 17; refine (off2_any (z0 0).o (lcOf (z0 0).l (z0 0).c) _ q0).mono ?_; rintro e wN ⟨rfl, hbN⟩; have hS := Lib.hid (below_next (Hid.out (And.left (by assumption))) hbN); clear hbN; obtain ⟨c0, c1, c2, m0, m1, zb, zm⟩ := HC.out _ hS.out) | (go_at_call 18; refine (ro_any (z0 0).o (z0 0).l (z0 0).c _ q0).mono ?_; rintro e wN ⟨rfl, hbN⟩; have hS := Lib.hid (below_next (Hid.out (And.left (by assumption))) hbN); clear hbN; obtain ⟨c0, c1, c2, m0, m1, zb, zm⟩ := HC.out _ hS.out))
    go_wp2_with fail
    go_ret
    exact ⟨by simp, below_next H5.out hS.out⟩
end Go.Proofs.Ytfeibikakhmecaa.fnStmtsPosNoStmts
