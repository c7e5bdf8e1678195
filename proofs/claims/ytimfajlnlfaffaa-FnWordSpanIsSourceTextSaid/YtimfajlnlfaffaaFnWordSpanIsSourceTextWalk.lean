/- The walk of FnWordSpanIsSourceText: the Go text returns true. Conditions: none. -/
import Derived.Test.YtimfajlnlfaffaaBuildW
namespace Go.Proofs.Ytimfajlnlfaffaa.fnWordSpanIsSourceText
open Go.RowKit
set_option linter.unusedVariables false

theorem word_pos {base : Int} {f : Nat → ByteArray} {kk : Nat → Int} {n b : Nat} {w : World} (h : WordOf base f kk n b w) (hn : 0 < n) :
    Calls Try.prog 37 #[.pointer (some ⟨b, 0, none⟩)] w fun e w' => e = .returned (.agg #[.int .u32 base, .int .u32 (lc1 base)]) ∧ Below w.heap.size w w' := by
  obtain ⟨g, h1, h2⟩ := h
  obtain ⟨x, hx, hp⟩ := h2 0 hn
  have e0 : base + ((srcn f kk 0 : Nat) : Int) = base := by simp [srcn]
  rw [e0] at hp
  rcases hp with ⟨_, c, _, rfl, c0, c1, _⟩ | ⟨_, c, _, rfl, c0, c1, _⟩ | ⟨_, c, _, rfl, c0, c1, _⟩
  · exact wp_Lit b g c n n _ _ w hn h1 hx c0 c1
  · exact wp_Sgl b g c n n _ _ w hn h1 hx c0 c1
  · exact wp_Dbl b g c n n _ _ w hn h1 hx c0 c1
theorem word_end {base : Int} {f : Nat → ByteArray} {kk : Nat → Int} {n b : Nat} {w : World} (h : WordOf base f kk n b w) (hn : 0 < n) (hn2 : n ≤ 65536) (hb : 0 ≤ base ∧ base ≤ 1048576) (ht : srcn f kk n ≤ 2097152) :
    Calls Try.prog 38 #[.pointer (some ⟨b, 0, none⟩)] w fun e w' => e = .returned (.agg #[.int .u32 (base + srcn f kk n), .int .u32 (lc1 (base + srcn f kk n))]) ∧ Below w.heap.size w w' := by
  obtain ⟨g, h1, h2⟩ := h
  obtain ⟨x, hx, hp⟩ := h2 (n - 1) (by omega)
  obtain ⟨k, rfl⟩ : ∃ k, n = k + 1 := ⟨n - 1, by omega⟩
  rw [Nat.add_sub_cancel] at hx hp
  rcases hp with ⟨e, c, _, rfl, _, _, c2, c3, _⟩ | ⟨e, c, _, rfl, _, _, c2, c3⟩ | ⟨e, c, _, rfl, _, _, c2, c3⟩
  · have q : base + ((srcn f kk (k + 1) : Nat) : Int) = base + srcn f kk k + (f k).size := by rw [srcn_zero f kk k e]; omega
    rw [q]
    exact we_Lit b g c (k + 1) (k + 1) _ _ w hn (by omega) h1 hx c2 c3
  · have q : base + ((srcn f kk (k + 1) : Nat) : Int) = base + srcn f kk k + 1 + (f k).size + 1 := by rw [srcn_two f kk k (.inl e)]; omega
    rw [srcn_two f kk k (.inl e)] at ht
    rw [q]
    obtain ⟨r1, r2⟩ := lc1_step (base + srcn f kk k + 1 + (f k).size) _ (by omega) (by omega) rfl
    have hl := lc1_in (base + srcn f kk k + 1 + (f k).size) (by omega)
    have := we_Sgl b g c (k + 1) (k + 1) _ _ w (by omega) (by omega) hn (by omega) h1 hx c2 c3
    rw [r1, r2] at this
    exact this
  · have q : base + ((srcn f kk (k + 1) : Nat) : Int) = base + srcn f kk k + 1 + (f k).size + 1 := by rw [srcn_two f kk k (.inr e)]; omega
    rw [srcn_two f kk k (.inr e)] at ht
    rw [q]
    obtain ⟨r1, r2⟩ := lc1_step (base + srcn f kk k + 1 + (f k).size) _ (by omega) (by omega) rfl
    have hl := lc1_in (base + srcn f kk k + 1 + (f k).size) (by omega)
    have := we_Dbl b g c (k + 1) (k + 1) _ _ w (by omega) (by omega) hn (by omega) h1 hx c2 c3
    rw [r1, r2] at this
    exact this
theorem line1 (o : Int) (w : World) (h : 0 ≤ o) : Calls Try.prog 41 #[.agg #[.int .u32 o, .int .u32 (lc1 o)]] w fun e w' => e = .returned (.int .u64 1) ∧ Below w.heap.size w w' :=
  (line_any o (lc1 o) w (by have := lc1_in o h; omega)).mono fun _ _ ⟨he, hb⟩ => ⟨by rw [he]; exact ret_int (by have := lc1_in o h; unfold lineOf; omega), hb⟩
theorem col1 (o : Int) (w : World) (h : 0 ≤ o) (h2 : o + 1 ≤ 16383) : Calls Try.prog 43 #[.agg #[.int .u32 o, .int .u32 (lc1 o)]] w fun e w' => e = .returned (.int .u64 (o + 1)) ∧ Below w.heap.size w w' :=
  (col_any o (lc1 o) w (by have := lc1_in o h; omega)).mono fun _ _ ⟨he, hb⟩ => ⟨by rw [he]; exact ret_int (by unfold colOf lc1 lcOf lineIn colIn; rw [if_neg (by omega), if_neg (by omega)]; omega), hb⟩
theorem col0 (o : Int) (w : World) (h : 0 ≤ o) (h2 : 16383 < o + 1) : Calls Try.prog 43 #[.agg #[.int .u32 o, .int .u32 (lc1 o)]] w fun e w' => e = .returned (.int .u64 0) ∧ Below w.heap.size w w' :=
  (col_any o (lc1 o) w (by have := lc1_in o h; omega)).mono fun _ _ ⟨he, hb⟩ => ⟨by rw [he]; exact ret_int (by unfold colOf lc1 lcOf lineIn colIn; rw [if_neg (by omega), if_pos (by omega)]; omega), hb⟩
theorem aft (o p : Int) (w : World) (h : 0 ≤ o ∧ o ≤ 4294967284) (h2 : o ≤ p) : Calls Try.prog 42 #[.agg #[.int .u32 o, .int .u32 (lc1 o)], .agg #[.int .u32 p, .int .u32 (lc1 p)]] w fun e w' => e = .returned (.bool false) ∧ Below w.heap.size w w' :=
  after_is o (lc1 o) p (lc1 p) false w h (by have := lc1_in o h.1; omega) (by simp; omega)
theorem kinds_in {w : World} {a : Option Addr} {m cap : Nat} {zs : List Int} (h : IsRow .u8 w a m cap zs) : ∀ i, i < m → 0 ≤ zs.getD i 0 ∧ zs.getD i 0 ≤ 255 := by
  intro i hi
  rcases h with ⟨rfl, rfl, rfl, rfl⟩ | ⟨x, rfl, hl, _, hz, _, hw⟩
  · omega
  · have e : zs.getD i 0 = zs[i]'(by omega) := by simp [List.getD, show i < zs.length by omega]
    rw [e]
    exact bounds_u8 (hw _ (List.getElem_mem _))
theorem IsRow.below {k : IntKind} {w w' : World} {a : Option Addr} {len cap : Nat} {zs : List Int} (h : IsRow k w a len cap zs) (hb : Below w.heap.size w w') : IsRow k w' a len cap zs := by
  rcases h with h | ⟨x, h1, h2, h3, h4, h5, h6⟩
  · exact .inl h
  · exact .inr ⟨x, h1, h2, h3, h4, fun i hi => cell_later hb (h5 i hi), h6⟩
theorem IsStrs.below {w w' : World} {a : Option Addr} {len cap : Nat} {zs : List ByteArray} (h : IsStrs w a len cap zs) (hb : Below w.heap.size w w') : IsStrs w' a len cap zs := by
  rcases h with h | ⟨x, h1, h2, h3, h4, h5, h6⟩
  · exact .inl h
  · exact .inr ⟨x, h1, h2, h3, h4, fun i hi => cell_later hb (h5 i hi), h6⟩

set_option maxRecDepth 100000 in
set_option maxHeartbeats 4000000 in
theorem walk (a0 : Int) (a1 : Option Addr) (len1 cap1 : Nat) (z1 : List ByteArray) (a2 : Option Addr) (len2 cap2 : Nat) (z2 : List Int) (w : World) (w0 : (Lit.int .u32 a0).wf = true) (w1 : IsStrs w a1 len1 cap1 z1) (w2 : IsRow .u8 w a2 len2 cap2 z2) :
    Calls Try.prog 7 #[.int .u32 a0, .slice a1 len1 cap1, .slice a2 len2 cap2] w fun e w' => e = .returned (.bool true) ∧ Below w.heap.size w w' := by
  have b0 := bounds_u32 w0
  clear w0
  obtain ⟨hs, hm⟩ := strIn_of w1
  have HS := Lib.hid hs
  have W1 := Lib.hid w1
  have HK := Lib.hid (kinds_in w2)
  have W2 := Lib.hid w2
  clear hs hm w1 w2
  go_enter Try.func7, Try.ntmps7
  go_wp2_with fail
  refine (zbS_any _ _ _ _ _ _ _ _ _ HS.out).mono ?_
  rintro e v1 ⟨b, rfl, hb1, hz⟩
  cases b
  · go_wp2_with fail
    go_ret
    exact ⟨rfl, hb1⟩
  have HZ := Lib.hid (hz rfl)
  have HS := Lib.hid (HS.out.below hb1)
  have H1 := Lib.hid hb1
  clear hz hb1
  go_wp2_with fail
  refine (sok_any _ _ _ _ _ _ _ _ HS.out HZ.out).mono ?_
  rintro e v2 ⟨b, rfl, rfl, hq⟩
  cases b
  · go_wp2_with fail
    go_ret
    exact ⟨rfl, H1.out⟩
  obtain ⟨n1, n2, n3⟩ := hq rfl
  clear hq HZ HS
  by_cases g1 : 1048576 < a0
  · go_wp2_with fail
    go_ret
    exact ⟨rfl, H1.out⟩
  by_cases g2 : len1 = 0
  · subst g2
    go_wp2_with fail
    go_ret
    exact ⟨rfl, H1.out⟩
  have q0 : (len1 == 0) = false := by simp [g2]
  have q1 : ((len1 : Int) == 0) = false := by simp [g2]
  go_wp2_with fail
  refine (cps_row _ _ _ z1 _ (IsStrs.below W1.out H1.out) (by omega)).mono ?_
  rintro e v3 ⟨A, rfl, hA, hb3⟩
  have H3 := Lib.hid (below_next H1.out hb3)
  have SA := Lib.hid hA
  clear hA hb3 H1 W1
  go_wp2_with fail
  refine (ck8_row _ _ _ z2 _ (IsRow.below W2.out H3.out) (by omega)).mono ?_
  rintro e v4 ⟨C, rfl, hC, hb4⟩
  have H4 := Lib.hid (below_next H3.out hb4)
  have SA := Lib.hid (SA.out.below hb4)
  have SC := Lib.hid hC
  clear hC hb4 H3 W2
  go_wp2_with fail
  refine (bw_any _ _ _ _ _ _ _ _ (by omega) SA.out SC.out HK.out (by omega) (by omega)).mono ?_
  rintro e v5 ⟨b, rfl, hW, hb5⟩
  have H5 := Lib.hid (below_next H4.out hb5)
  have SA := Lib.hid (SA.out.below hb5)
  have SC := Lib.hid (SC.out.below hb5)
  have HW := Lib.hid hW
  clear hW hb5 H4
  obtain ⟨sn, hsn⟩ : ∃ sn, sn = srcn (sth z1) (kd (fun i => z2.getD i 0) len2) len1 := ⟨_, rfl⟩
  have hle : sn ≤ 2097152 := by have := srcn_le (sth z1) (kd (fun i => z2.getD i 0) len2) len1; omega
  have EN := Lib.hid hsn
  clear hsn
  go_wp2_with fail
  refine (word_pos HW.out (by omega)).mono ?_
  rintro e v6 ⟨rfl, hb6⟩
  have H6 := Lib.hid (below_next H5.out hb6)
  have SA := Lib.hid (SA.out.below hb6)
  have SC := Lib.hid (SC.out.below hb6)
  have HW := Lib.hid (HW.out.below hb6)
  clear hb6 H5
  have hal : Below v6.heap.size v6 (v6.alloc (.cells #[.int .u32 a0, .int .u32 (lc1 a0)] 24)) := (Below.refl _ _).alloc (Nat.le_refl _) _
  have HAL := Lib.hid hal
  clear hal
  go_wp2_with fail
  refine (word_end (HW.out.below HAL.out) (by omega) (by omega) (by omega) (by rw [← EN.out]; exact hle)).mono ?_
  rw [← EN.out]
  rintro e v7 ⟨rfl, hb7⟩
  have d0 : v7.cell? ⟨v6.heap.size, 0, none⟩ = some (.int .u32 a0) := cell_later hb7 (by simp [go_sem])
  have d1 : v7.cell? ⟨v6.heap.size, 1, none⟩ = some (.int .u32 (lc1 a0)) := cell_later hb7 (by simp [go_sem])
  have y0 := lt_cell d0
  have H7 := Lib.hid (below_next (below_next H6.out HAL.out) hb7)
  have SA := Lib.hid ((SA.out.below HAL.out).below hb7)
  have SC := Lib.hid ((SC.out.below HAL.out).below hb7)
  clear hb7 H6 HAL HW
  go_wp2_with fail
  have hal : Below v7.heap.size v7 (v7.alloc (.cells #[.int .u32 (a0 + sn), .int .u32 (lc1 (a0 + sn))] 24)) := (Below.refl _ _).alloc (Nat.le_refl _) _
  refine (srcl_any _ _ _ _ _ _ _ (SA.out.below hal) (SC.out.below hal) HK.out (by omega) (by omega)).mono ?_
  rw [← EN.out]
  rintro e v8 ⟨rfl, rfl⟩
  clear hal
  have hm : (a0 + 1 ≤ 16383 ∧ a0 + sn + 1 ≤ 16383) ∨ (a0 + 1 ≤ 16383 ∧ 16383 < a0 + sn + 1) ∨ (16383 < a0 + 1 ∧ 16383 < a0 + sn + 1) := by omega
  rcases hm with ⟨m1, m2⟩ | ⟨m1, m2⟩ | ⟨m1, m2⟩
  all_goals
    go_wp2_with fail
    refine calls_gen (fun V => Below w.heap.size w V ∧ V.cell? ⟨v6.heap.size, 0, none⟩ = some (.int .u32 a0) ∧ V.cell? ⟨v6.heap.size, 1, none⟩ = some (.int .u32 (lc1 a0)) ∧ V.cell? ⟨v7.heap.size, 0, none⟩ = some (.int .u32 (a0 + sn)) ∧ V.cell? ⟨v7.heap.size, 1, none⟩ = some (.int .u32 (lc1 (a0 + sn)))) ⟨below_next H7.out (by go_grown), cell_alloc d0, cell_alloc d1, by simp [go_sem], by simp [go_sem]⟩ ?_
    clear d0 d1
    rintro U ⟨hV, k0, k1, k2, k3⟩
    have HV := Lib.hid hV
    have x0 := lt_cell k0
    have x2 := lt_cell k2
    clear hV H7
    obtain ⟨w0, E0⟩ : ∃ w0, w0 = w := ⟨_, rfl⟩
    have EW := Lib.hid E0
    clear E0
    obtain ⟨w, rfl⟩ : ∃ w, w = U := ⟨_, rfl⟩
    obtain ⟨S, hS, hSn, hSB, hSc⟩ := cells_word w (w) [(⟨v6.heap.size, 0, none⟩, .int .u32 a0), (⟨v6.heap.size, 1, none⟩, .int .u32 (lc1 a0)), (⟨v7.heap.size, 0, none⟩, .int .u32 (a0 + sn)), (⟨v7.heap.size, 1, none⟩, .int .u32 (lc1 (a0 + sn)))] (by go_grown) (by intro p hp; simp only [List.mem_cons, List.not_mem_nil, or_false] at hp; rcases hp with rfl | rfl | rfl | rfl <;> exact ⟨by first | assumption | (simp [go_sem]; done) | (refine cell_alloc ?_; assumption) | (refine cell_alloc (cell_alloc ?_); assumption) | (refine cell_alloc (cell_alloc (cell_alloc ?_)); assumption), by first | (simp; omega) | (simp; done)⟩)
    have HC := Lib.hid (show ∀ W, S W → W.cell? ⟨v6.heap.size, 0, none⟩ = some (.int .u32 a0) ∧ W.cell? ⟨v6.heap.size, 1, none⟩ = some (.int .u32 (lc1 a0)) ∧ W.cell? ⟨v7.heap.size, 0, none⟩ = some (.int .u32 (a0 + sn)) ∧ W.cell? ⟨v7.heap.size, 1, none⟩ = some (.int .u32 (lc1 (a0 + sn))) ∧ v6.heap.size < W.heap.size ∧ v7.heap.size < W.heap.size from fun W h => ⟨(hSc W h (⟨v6.heap.size, 0, none⟩, .int .u32 a0) (by simp)).1, (hSc W h (⟨v6.heap.size, 1, none⟩, .int .u32 (lc1 a0)) (by simp)).1, (hSc W h (⟨v7.heap.size, 0, none⟩, .int .u32 (a0 + sn)) (by simp)).1, (hSc W h (⟨v7.heap.size, 1, none⟩, .int .u32 (lc1 (a0 + sn))) (by simp)).1, (hSc W h (⟨v6.heap.size, 0, none⟩, .int .u32 a0) (by simp)).2, (hSc W h (⟨v7.heap.size, 0, none⟩, .int .u32 (a0 + sn)) (by simp)).2⟩)
    have HN := Lib.hid hSn
    have HB := Lib.hid hSB
    clear hSn hSB hSc  
    obtain ⟨c0, c1, c2, c3, z0, z1⟩ := HC.out _ hS
    clear k0 k1 k2 k3 x0 x2
    refine (offset_is _ _ _ (by omega)).mono ?_
    rintro e wN ⟨rfl, hbN⟩
    have hS := HN.out _ _ hS hbN
    clear hbN c0 c1 c2 c3 z0 z1
    obtain ⟨c0, c1, c2, c3, z0, z1⟩ := HC.out _ hS
    go_wp2_with fail
    refine (offset_is _ _ _ (by omega)).mono ?_
    rintro e wN ⟨rfl, hbN⟩
    have hS := HN.out _ _ hS hbN
    clear hbN c0 c1 c2 c3 z0 z1
    obtain ⟨c0, c1, c2, c3, z0, z1⟩ := HC.out _ hS
    go_wp2_with fail
    refine (line1 _ _ (by omega)).mono ?_
    rintro e wN ⟨rfl, hbN⟩
    have hS := HN.out _ _ hS hbN
    clear hbN c0 c1 c2 c3 z0 z1
    obtain ⟨c0, c1, c2, c3, z0, z1⟩ := HC.out _ hS
    go_wp2_with fail
    refine (line1 _ _ (by omega)).mono ?_
    rintro e wN ⟨rfl, hbN⟩
    have hS := HN.out _ _ hS hbN
    clear hbN c0 c1 c2 c3 z0 z1
    obtain ⟨c0, c1, c2, c3, z0, z1⟩ := HC.out _ hS
    go_wp2_with fail
    refine (aft _ _ _ (by omega) (by omega)).mono ?_
    rintro e wN ⟨rfl, hbN⟩
    have hS := HN.out _ _ hS hbN
    clear hbN c0 c1 c2 c3 z0 z1
    obtain ⟨c0, c1, c2, c3, z0, z1⟩ := HC.out _ hS
    go_wp2_with fail
    first
      | refine (col1 _ _ (by omega) (by omega)).mono ?_
      | refine (col0 _ _ (by omega) (by omega)).mono ?_
    rintro e wN ⟨rfl, hbN⟩
    have hS := HN.out _ _ hS hbN
    clear hbN c0 c1 c2 c3 z0 z1
    obtain ⟨c0, c1, c2, c3, z0, z1⟩ := HC.out _ hS
    go_wp2_with fail
    first
      | refine (col1 _ _ (by omega) (by omega)).mono ?_
      | refine (col0 _ _ (by omega) (by omega)).mono ?_
    rintro e wN ⟨rfl, hbN⟩
    have hS := HN.out _ _ hS hbN
    clear hbN
    go_wp2_with fail
    go_ret
    exact ⟨rfl, below_next HV.out (HB.out _ hS)⟩
end Go.Proofs.Ytimfajlnlfaffaa.fnWordSpanIsSourceText
