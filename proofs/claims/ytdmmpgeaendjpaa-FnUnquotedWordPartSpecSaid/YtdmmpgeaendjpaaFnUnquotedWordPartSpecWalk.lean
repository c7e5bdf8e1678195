/- The walk of FnUnquotedWordPartSpec: the Go text returns true. Conditions: none. -/
import Derived.Test.YtdmmpgeaendjpaaBpart
import Derived.OpenShut
namespace Go.Proofs.Ytdmmpgeaendjpaa.fnUnquotedWordPartSpec
open Go.RowKit
set_option linter.unusedVariables false
set_option linter.unusedSimpArgs false

/-- a copy that is the call's own -/
theorem clu_own (A : Option Addr) (n : Nat) (xs : List Int) (w : World) (hl : xs.length = n) (hb : n ≤ 1048576) (h : RowOf .u8 w A n (fun i => xs.getD i 0)) :
    Calls Try.prog 8 #[.slice A n n] w fun e w' => ∃ v, e = .returned v ∧ w'.ownsRow w.heap.size 5 1 v n (bc xs) ∧ Below w.heap.size w w' := by
  cases A with
  | none =>
    have hn : n = 0 := by
      by_cases h0 : 0 < n
      · obtain ⟨g, e, _⟩ := h 0 h0; cases e
      · omega
    subst hn
    obtain rfl : xs = [] := List.eq_nil_of_length_eq_zero hl
    exact (clu_none w).mono fun _ _ ⟨he, hw⟩ => ⟨_, he, World.ownsRow_nil _ _ _ _, hw⟩
  | some x =>
    have hc : ∀ i, i < xs.length → w.cell? (x.add i) = some (.int .u8 (xs.getD i 0)) := fun i hi => by
      obtain ⟨g, e, hc⟩ := h i (by omega)
      injection e with e
      subst e
      rw [Addr.add_lit, Nat.zero_add]
      exact hc
    have hx : 0 < n → x.block < w.heap.size := fun h0 => by
      have := World.block_lt_of_cell? w _ (hc 0 (by omega))
      rwa [block_of_add] at this
    refine (clu_some x n n xs w (by omega) hb hc hx).mono fun e w' ⟨he, ho, hw⟩ => ⟨_, he, ?_, hw⟩
    rw [List.take_of_length_le (by omega)] at ho
    exact ho
/-- an owned row reads as its list -/
theorem own_reads {w : World} {b : Nat} {v : Value} {n : Nat} {xs : List Int} (h : w.ownsRow b 5 1 v n (bc xs)) : ∃ A c, v = .slice A n c ∧ RowOf .u8 w A n (fun i => xs.getD i 0) := by
  have hl : xs.length = n := by have := h.1; rw [bc_len] at this; omega
  rcases h.2 with ⟨rfl, rfl⟩ | ⟨g, cap, cur, rfl, hb, hg, hnc, _⟩
  · exact ⟨none, 0, rfl, fun i hi => absurd hi (by omega)⟩
  · refine ⟨some ⟨g, 0, none⟩, cap, rfl, fun i hi => ⟨g, rfl, ?_⟩⟩
    rw [h.cellAt i (by omega)]
    simp [bc, List.getD, show i < xs.length by omega]
theorem row_keep {W w : World} {A : Option Addr} {n : Nat} {f : Nat → Int} (h : RowOf .u8 W A n f) (hk : ∀ b o v, W.cell? ⟨b, o, none⟩ = some v → b < W.heap.size → (A = some ⟨b, 0, none⟩) → w.cell? ⟨b, o, none⟩ = some v) : RowOf .u8 w A n f := fun i hi => by
  obtain ⟨g, e, hc⟩ := h i hi
  have hz : g < W.heap.size := by have := World.block_lt_of_cell? _ _ hc; simpa using this
  exact ⟨g, e, hk _ _ _ hc hz e⟩
/-- the first copy's block, if it is read at all -/
def Old (A : Option Addr) (n B : Nat) : Prop := 0 < n → ∃ g, A = some ⟨g, 0, none⟩ ∧ g < B
set_option maxRecDepth 100000 in
set_option maxHeartbeats 1000000 in
theorem zup_any (P : Option Addr) (v x : Value) (xs ys : List Int) (q quotes : Bool) (w : World) (h : Calls Try.prog 29 #[.pointer P, v, x, .bool quotes] w (UPost w v xs ys q)) :
    Calls Try.prog 17 #[.pointer P, v, x, .bool quotes] w (UPost w v xs ys q) := by
  have H := Lib.hid h
  clear h
  go_enter Try.func17, Try.ntmps17
  go_wp2_with (go_at_call 29; refine H.out.mono ?_; rintro e w2 ⟨v2, rfl, hG2⟩; have H2 := Lib.hid hG2; clear hG2)
  go_ret2
  exact ⟨_, rfl, H2.out⟩
set_option maxRecDepth 100000 in
set_option maxHeartbeats 4000000 in
theorem main (a0 : Option Addr) (n cap0 : Nat) (z0 : List Int) (K : Int) (s : ByteArray) (q : Bool) (w : World) (w0 : IsRow .u8 w a0 n cap0 z0) (hK : 0 ≤ K ∧ K ≤ 255) (hn : n ≤ 1048576) (hs : s.size ≤ 1048576) (hsum : n + s.size ≤ 1048576) :
    Calls Try.prog 4 #[.slice a0 n cap0, .int .u8 K, .string s, .bool q] w fun e w' => e = .returned (.bool true) ∧ Below w.heap.size w w' := by
  have hzl : n ≤ z0.length := by
    rcases w0 with ⟨_, h, _⟩ | ⟨x, _, hl, _, hzl, _, hw⟩ <;> omega
  go_enter Try.func4, Try.ntmps4
  go_wp2_with (go_at_call 16; go_in)
  refine (clu_row a0 n cap0 z0 _ w0 (by omega)).mono ?_
  rintro e w1 ⟨A, rfl, hA, hb1⟩
  have hA2 : RowOf .u8 w1 A n (fun i => (z0.take n).getD i 0) := fun i hi => by
    obtain ⟨g, e, hc⟩ := hA i hi
    refine ⟨g, e, ?_⟩
    have : (z0.take n).getD i 0 = z0.getD i 0 := by simp [List.getD, hi]
    show w1.cell? ⟨g, i, none⟩ = some (Value.int .u8 ((z0.take n).getD i 0))
    rw [this]
    exact hc
  obtain ⟨xs, exs⟩ : ∃ xs, z0.take n = xs := ⟨_, rfl⟩
  have hxl : xs.length = n := by rw [← exs, List.length_take]; omega
  rw [exs] at hA2
  have HX := Lib.hid hxl
  have HA := Lib.hid hA2
  have H1 := Lib.hid hb1
  clear hA hA2 hb1 exs hxl hzl w0
  go_wp2_with fail
  refine (clu_own A n xs _ HX.out (by omega) HA.out).mono ?_
  rintro e w2 ⟨v, rfl, hown, hb2⟩
  have HO2 := Lib.hid hown
  have H2 := Lib.hid hb2
  clear hown hb2
  go_wp2_with fail
  refine (np_any _).mono ?_
  rintro e w3 ⟨rfl, hp, hb3, hsz⟩
  have H3 := Lib.hid hb3
  have HSZ := Lib.hid hsz
  clear hp hb3 hsz
  go_wp2_with fail
  refine (bp_any K s _ hK).mono ?_
  rintro e w4 ⟨x, rfl, hP, hb4⟩
  have H4 := Lib.hid hb4
  have HP := Lib.hid hP
  clear hb4 hP
  go_wp2_with fail
  obtain ⟨ys, eys⟩ : ∃ ys, mbytes (K % 5) s q = ys := ⟨_, rfl⟩
  obtain ⟨Q, eQ⟩ : ∃ Q, mquote (K % 5) s q = Q := ⟨_, rfl⟩
  have hyl : ys.length ≤ s.size := by rw [← eys]; exact mbytes_len _ _ _
  have hb24 := H3.out.trans (H4.out.mono H3.out.size)
  have hz1 := H1.out.size
  have hz2 := H2.out.size
  have hz3 := H3.out.size
  have hz4 := H4.out.size
  have hvb : ∀ b, w3.heap.size ≤ b → some b ≠ v.ownBlock := fun b hb e => by
    rcases own_in HO2.out with h | ⟨g, h, _, hl⟩
    · rw [h] at e; cases e
    · rw [h] at e; cases e; omega
  have hown4 : w4.ownsRow 0 5 1 v xs.length (bc xs) := by
    rw [HX.out]
    exact ownsRow_low (HO2.out.kept (grownBelow hb24 none) (by cases v.ownBlock <;> simp)) (Nat.zero_le _)
  have hU := zup_any (some ⟨w2.heap.size, 0, none⟩) v x xs _ _ q w4 (up_part w3.heap.size (K % 5) s x (some ⟨w2.heap.size, 0, none⟩) v xs q w4 hs (by rw [HX.out]; omega) hown4 HP.out hvb)
  rw [eys, eQ] at hU
  have hA4 : RowOf .u8 w4 A n (fun i => xs.getD i 0) := (HA.out.below H2.out).below hb24
  refine hU.mono ?_
  rintro e w5 ⟨v5, rfl, hG5⟩
  have hA5 : RowOf .u8 w5 A n (fun i => xs.getD i 0) := fun i hi => by
    obtain ⟨g, e, hc⟩ := hA4 i hi
    obtain ⟨g', e', hc'⟩ := HA.out i hi
    have hgl : g' < w1.heap.size := by have := World.block_lt_of_cell? _ _ hc'; simpa using this
    rw [e] at e'
    injection e' with e'
    injection e' with e'
    subst e'
    refine ⟨g, e, ?_⟩
    have hne : some g ≠ v.ownBlock := fun e2 => by
      rcases own_in HO2.out with h | ⟨g2, h, hl, _⟩
      · rw [h] at e2; cases e2
      · rw [h] at e2; cases e2; omega
    rw [World.cell?_of_block (hG5.1.block g (by omega) hne)]
    exact hc
  have hB5 : Below w.heap.size w w5 := by
    have hB4 : Below w.heap.size w w4 := (H1.out.trans (H2.out.mono hz1)).trans (hb24.mono (by omega))
    refine hB4.grown hG5.1 (by omega) (fun g e => ?_)
    rcases own_in HO2.out with h | ⟨g2, h, hl, _⟩
    · rw [h] at e; cases e
    · rw [h] at e; cases e; omega
  obtain ⟨A5, c5, rfl, hR5⟩ := own_reads hG5.owns
  obtain ⟨N, eN⟩ : ∃ N, (xs ++ ys).length = N := ⟨_, rfl⟩
  rw [eN] at hR5
  simp only [eN]
  have hN : N = n + ys.length := by rw [← eN, List.length_append, HX.out]
  have hM := mp_any K s q w5 hK hs
  rw [eys, eQ] at hM
  have HM := Lib.hid hM
  have H5 := Lib.hid hB5
  have HR5 := Lib.hid hR5
  have HA5 := Lib.hid hA5
  have HN := Lib.hid hN
  have hNl : N ≤ 1048576 := by omega
  obtain ⟨m, em⟩ : ∃ m, ys.length = m := ⟨_, rfl⟩
  have HNm := Lib.hid (show N = n + m by rw [← em]; exact hN)
  clear hM hB5 hR5 hA5 hN eN hU hA4 hown4 hvb hb24 hG5 HP H2 H3 H4 HSZ HO2 HA H1 eys eQ
  go_wp2_with fail
  refine HM.out.mono ?_
  rintro e w6 ⟨A6, c6, rfl, hO6, hb6⟩
  have hR6 : RowOf .u8 w6 A6 m (fun i => ys.getD i 0) := by
    obtain ⟨A', c', e, h⟩ := own_reads hO6
    injection e with e1 e2 e3
    subst e1
    rw [em] at h
    exact h
  have hR56 : RowOf .u8 w6 A5 N (fun i => (xs ++ ys).getD i 0) := HR5.out.below hb6
  have hA56 : RowOf .u8 w6 A n (fun i => xs.getD i 0) := HA5.out.below hb6
  have hB6 : Below w.heap.size w w6 := below_next H5.out hb6
  have HRR := Lib.hid (And.intro hR6 (And.intro hR56 (And.intro hA56 hB6)))
  clear hO6 hb6 hR6 hR56 hA56 hB6 HR5 HA5 H5 HM
  rw [em]
  have hsum2 : (N : Int) = (n : Int) + (m : Int) := by have := HNm.out; omega
  have hml : m ≤ 1048576 := by omega
  have hg : ((N : Int) != (n : Int) + (m : Int)) = false := by simp [hsum2]
  have HS2 := Lib.hid hsum2
  clear hsum2
  go_wp2_with fail
  have HW6 := Lib.hid HRR.out.2.2.2
  go_loopw [15] (fun i wr => ∃ k : Nat, k ≤ n ∧ i = .int .i64 k ∧ Below w6.heap.size w6 wr) (fun i _ => n - (intOf i).toNat)
  case atStart => exact ⟨0, Nat.zero_le _, rfl, Below.refl _ _⟩
  case round =>
    obtain ⟨k, hk, rfl, hbw⟩ := hrel
    by_cases hlt : k < n
    · obtain ⟨g5, e5, c5'⟩ := HRR.out.2.1.below hbw k (by have := HNm.out; omega)
      obtain ⟨ga, ea, ca⟩ := HRR.out.2.2.1.below hbw k hlt
      have ec : (xs ++ ys).getD k 0 = xs.getD k 0 := by simp [List.getD, List.getElem?_append_left (show k < xs.length by rw [HX.out]; exact hlt)]
      obtain ⟨c, hc⟩ : ∃ c, xs.getD k 0 = c := ⟨_, rfl⟩
      have c5 : wr.cell? ⟨g5, k, none⟩ = some (.int .u8 c) := by rw [← hc, ← ec]; exact c5'
      have c6 : wr.cell? ⟨ga, k, none⟩ = some (.int .u8 c) := by rw [← hc]; exact ca
      have hcc : (c != c) = false := by simp
      have HBW := Lib.hid hbw
      have hN5 : (k : Int) < (N : Int) := by have := HNm.out; omega
      have hN6 : k < N := by have := HNm.out; omega
      clear hbw c5' ca ec hc
      subst e5 ea
      go_wp2_with fail
      go_quiet (fail)
      go_wp2_with fail
      go_roundw
      case rel => exact ⟨k + 1, by omega, by go_num, drewN_of HBW.out⟩
      case measure => simp [intOf]; omega
    · obtain rfl : k = n := by omega
      clear hlt
      have HBW := Lib.hid hbw
      clear hbw
      go_wp2_with fail
      go_loopw [16] (fun i wr => ∃ j : Nat, j ≤ m ∧ i = .int .i64 j ∧ Below w6.heap.size w6 wr) (fun i _ => m - (intOf i).toNat)
      case atStart => exact ⟨0, Nat.zero_le _, rfl, HBW.out⟩
      case round =>
        clear HBW
        obtain ⟨j, hj, rfl, hbw⟩ := hrel
        by_cases hlt : j < m
        · obtain ⟨g5, e5, c5'⟩ := HRR.out.2.1.below hbw (k + j) (by have := HNm.out; omega)
          obtain ⟨ga, ea, ca⟩ := HRR.out.1.below hbw j hlt
          have ec : (xs ++ ys).getD (k + j) 0 = ys.getD j 0 := by simp [List.getD, List.getElem?_append_right (show xs.length ≤ k + j by rw [HX.out]; omega), HX.out]
          obtain ⟨c, hc⟩ : ∃ c, ys.getD j 0 = c := ⟨_, rfl⟩
          have c5 : wr.cell? ⟨g5, k + j, none⟩ = some (.int .u8 c) := by rw [← hc, ← ec]; exact c5'
          have c6 : wr.cell? ⟨ga, j, none⟩ = some (.int .u8 c) := by rw [← hc]; exact ca
          have hcc : (c != c) = false := by simp
          have HBW := Lib.hid hbw
          have hN5 : (k : Int) + (j : Int) < (N : Int) := by have := HNm.out; omega
          have hN6 : k + j < N := by have := HNm.out; omega
          clear hbw c5' ca ec hc
          subst e5 ea
          have v1 := IntWalk.i64_in ((k : Int) + (j : Int)) (by omega)
          have v2 : (0 : Int) ≤ (k : Int) + (j : Int) := by omega
          have v3 : ((k : Int) + (j : Int)).toNat = k + j := by omega
          go_wp2_with fail
          go_quiet (fail)
          go_wp2_with fail
          go_roundw
          case rel => exact ⟨j + 1, by omega, by go_num, drewN_of HBW.out⟩
          case measure => simp [intOf]; omega
        · obtain rfl : j = m := by omega
          clear hlt
          have HF := Lib.hid (below_next HW6.out hbw)
          clear hbw
          go_wp2_with fail
          go_ret
          exact ⟨rfl, HF.out⟩
set_option maxRecDepth 100000 in
set_option maxHeartbeats 4000000 in
theorem x1 (a0 : Option Addr) (n cap0 : Nat) (K : Int) (s : ByteArray) (q : Bool) (w : World) (h : 1048576 < n ∨ 1048576 < s.size ∨ 1048576 < n + s.size) (hs : s.size ≤ maxLen) (hn : n ≤ maxLen) : Calls Try.prog 4 #[.slice a0 n cap0, .int .u8 K, .string s, .bool q] w fun e w' => e = .returned (.bool true) ∧ Below w.heap.size w w' := by
  unfold maxLen at hs hn
  by_cases h1 : 1048576 < n
  · have k : (1048576 : Int) < (n : Int) := by omega
    go_enter Try.func4, Try.ntmps4
    go_wp2_with (go_at_call 16; go_in)
    go_ret
    exact ⟨rfl, by go_grown⟩
  have k1 : (n : Int) ≤ (1048576 : Int) := by omega
  by_cases h2 : 1048576 < s.size
  · have k : (1048576 : Int) < (s.size : Int) := by omega
    go_enter Try.func4, Try.ntmps4
    go_wp2_with (go_at_call 16; go_in)
    go_ret
    exact ⟨rfl, by go_grown⟩
  have k2 : (s.size : Int) ≤ (1048576 : Int) := by omega
  have k : (1048576 : Int) < (n : Int) + (s.size : Int) := by omega
  go_enter Try.func4, Try.ntmps4
  go_wp2_with (go_at_call 16; go_in)
  go_ret
  exact ⟨rfl, by go_grown⟩
theorem walk (a0 : Option Addr) (len0 cap0 : Nat) (z0 : List Int) (a1 : Int) (a2 : ByteArray) (a3 : Bool) (w : World) (w0 : IsRow .u8 w a0 len0 cap0 z0) (w1 : (Lit.int .u8 a1).wf = true) (w2 : a2.size ≤ maxLen) :
    Calls Try.prog 4 #[.slice a0 len0 cap0, .int .u8 a1, .string a2, .bool a3] w fun e w' => e = .returned (.bool true) ∧ Below w.heap.size w w' := by
  have b1 := bounds_u8 w1
  clear w1
  have hn : len0 ≤ maxLen := by
    rcases w0 with ⟨_, h, _⟩ | ⟨x, _, hl, hm, _⟩
    · rw [h]; exact Nat.zero_le _
    · exact Nat.le_trans hl hm
  by_cases h : 1048576 < len0 ∨ 1048576 < a2.size ∨ 1048576 < len0 + a2.size
  · exact x1 a0 len0 cap0 a1 a2 a3 w h w2 hn
  · exact main a0 len0 cap0 z0 a1 a2 a3 w w0 b1 (by omega) (by omega) (by omega)
end Go.Proofs.Ytdmmpgeaendjpaa.fnUnquotedWordPartSpec
