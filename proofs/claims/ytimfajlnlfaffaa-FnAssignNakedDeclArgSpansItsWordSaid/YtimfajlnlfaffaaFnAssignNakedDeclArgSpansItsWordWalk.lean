/- The walk of FnAssignNakedDeclArgSpansItsWord: the Go text returns true. Conditions: none. -/
import Derived.Test.YtimfajlnlfaffaaList
import Derived.Test.YtimfajlnlfaffaaStrs
namespace Go.Proofs.Ytimfajlnlfaffaa.fnAssignNakedDeclArgSpansItsWord
open Go.RowKit
set_option linter.unusedVariables false

set_option maxHeartbeats 400000 in
theorem mk_at (o l c : Int) (w : World) (hl : 0 ≤ l ∧ l ≤ 262143) (hc : 0 ≤ c ∧ c ≤ 16383) :
    Calls Try.prog 64 #[.int .u32 o, .int .u32 l, .int .u32 c] w fun e w' => e = .returned (.agg #[.int .u32 o, .int .u32 (l * 16384 + c)]) ∧ w' = (w.alloc (.cells #[.int .u32 o, .int .u32 (l * 16384 + c)] 24)).alloc (.cells #[.int .u32 o, .int .u32 (l * 16384 + c)] 24) := by
  have hor := or_col l c (by omega) (by omega) (by omega) (by omega)
  have h1 : 0 ≤ l * 16384 := by omega
  have h2 : l * 16384 ≤ 4294967295 := by omega
  go_enter Try.func64, Try.ntmps64
  go_wp2_with (first | (go_at_call 76; go_in) | (go_at_call 77; go_in))
  go_returns
  exact ⟨rfl, rfl⟩
set_option maxHeartbeats 400000 in
theorem lit_any (o l c : Int) (s : ByteArray) (w : World) (ho : 0 ≤ o ∧ o + s.size ≤ 4294967295) (hl : 0 ≤ l ∧ l ≤ 262143) (hc : 0 ≤ c ∧ c + s.size ≤ 16383) :
    Calls Try.prog 28 #[.int .u32 o, .int .u32 l, .int .u32 c, .string s] w fun e w' => ∃ b, e = .returned (.pointer (some ⟨b, 0, none⟩)) ∧ PosOn Try.prog 65 b o (l * 16384 + c) w.heap.size w' ∧ PosOn Try.prog 68 b (o + s.size) (l * 16384 + (c + s.size)) w.heap.size w' ∧ Below w.heap.size w w' := by
  go_enter Try.func28, Try.ntmps28
  go_wp2_with (go_at_call 64; (with_reducible refine (mk_at _ _ _ _ (by omega) (by omega)).mono ?_); rintro e wM ⟨rfl, rfl⟩)
  go_ret
  exact ⟨_, rfl, litPos_on (by simp [go_sem]) (by simp [go_sem]) (by omega), litEnd_on (by simp [go_sem]) (by simp [go_sem]) (by omega), by go_grown⟩
set_option maxHeartbeats 400000 in
theorem pis_any (o l c : Int) (w : World) (ho : 0 ≤ o ∧ o ≤ 4294967284) (hl : 0 ≤ l ∧ l ≤ 262143) (hc : 0 ≤ c ∧ c ≤ 16383) :
    Calls Try.prog 31 #[.agg #[.int .u32 o, .int .u32 (l * 16384 + c)], .int .u64 o, .int .u64 l, .int .u64 c] w fun e w' => e = .returned (.bool true) ∧ Below w.heap.size w w' := by
  go_enter Try.func31, Try.ntmps31
  go_wp2_with fail
  refine (offset_is _ _ _ ho).mono ?_
  rintro e w1 ⟨rfl, hb1⟩
  obtain ⟨S, hS, hSn, hSB, hSc⟩ := cells_after w _ _ hb1 [(⟨w.heap.size, 0, none⟩, .int .u32 o), (⟨w.heap.size, 1, none⟩, .int .u32 (l * 16384 + c))] (by go_grown) (by simp [go_sem])
  have HC := Lib.hid (show ∀ W, S W → W.cell? ⟨w.heap.size, 0, none⟩ = some (.int .u32 o) ∧ W.cell? ⟨w.heap.size, 1, none⟩ = some (.int .u32 (l * 16384 + c)) ∧ w.heap.size < W.heap.size from fun W h => ⟨(hSc W h (⟨w.heap.size, 0, none⟩, .int .u32 o) (by simp)).1, (hSc W h (⟨w.heap.size, 1, none⟩, .int .u32 (l * 16384 + c)) (by simp)).1, (hSc W h (⟨w.heap.size, 0, none⟩, .int .u32 o) (by simp)).2⟩)
  have HN := Lib.hid hSn
  have HB := Lib.hid hSB
  clear hSn hSB hSc hb1 
  obtain ⟨c0, c1, z0⟩ := HC.out _ hS
  go_wp2_with fail
  refine (line_is _ _ _ _ hl hc).mono ?_
  rintro e wN ⟨rfl, hbN⟩
  have hS := HN.out _ _ hS hbN
  clear hbN c0 c1 z0
  obtain ⟨c0, c1, z0⟩ := HC.out _ hS
  go_wp2_with fail
  refine (col_is _ _ _ _ hl hc).mono ?_
  rintro e wN ⟨rfl, hbN⟩
  have hS := HN.out _ _ hS hbN
  clear hbN c0 c1 z0
  obtain ⟨c0, c1, z0⟩ := HC.out _ hS
  go_wp2_with fail
  go_ret
  exact ⟨rfl, HB.out _ hS⟩
def FL (g : Nat) (o lc : Int) (x : Value) (W : World) : Prop := ∃ b, x = .iface 34 (.pointer (some ⟨b, 0, none⟩)) ∧ PosOn Try.prog 65 b o lc (g + 1) W
theorem FL.keep {g : Nat} {o lc : Int} (x : Value) (W W' : World) (hk : Keeps (g + 1) W W') (h : FL g o lc x W) : FL g o lc x W' := by
  obtain ⟨b, e, h⟩ := h
  exact ⟨b, e, h.keep hk⟩
def LL (g : Nat) (o l c : Int) (f : Nat → ByteArray) (j : Nat) (x : Value) (W : World) : Prop := ∃ b, x = .iface 34 (.pointer (some ⟨b, 0, none⟩)) ∧ PosOn Try.prog 68 b (o + stot f (j + 1)) (l * 16384 + (c + stot f (j + 1))) (g + 1) W
def PR (g : Nat) (o l c : Int) (f : Nat → ByteArray) (n : Nat) (w0 : World) (v u i : Value) (wr : World) : Prop :=
  ∃ k : Nat, i = .int .i64 k ∧ u = .int .u32 (stot f k) ∧ v = .slice (some ⟨g, 0, none⟩) k n ∧ LPart 120 (FL g o (l * 16384 + c)) (LL g o l c f) n g w0 k wr
theorem infoP : (Try.prog.info? 120).map (fun i => (i.zero, i.size, i.bytes)) = some (some .nilIface, 1, 16) := by kernel_rfl
theorem keep_on {P : Program} {f b g lo : Nat} {o lc : Int} {U w4 : World} (hg : U.grownBy w4 (some g)) (hl : g < lo) (h : PosOn P f b o lc lo U) : PosOn P f b o lc lo w4 := h.keep (Keeps.of_grown hg hl)
theorem new_cell {U : World} {v : Value} {ad : Addr} (h : U.cell? (ad.add 0) = some v) : ∀ j u, [v][j]? = some u → U.cell? (ad.add j) = some u := by
  intro j u hj
  cases j with
  | zero => simp at hj; subst hj; exact h
  | succ j => simp at hj

set_option maxRecDepth 100000 in
set_option maxHeartbeats 4000000 in
theorem main (a0 a1 a2 : Int) (a : Option Addr) (n cap : Nat) (f : Nat → ByteArray) (w : World) (b0 : 0 ≤ a0 ∧ a0 ≤ 4294967295) (b1 : 0 ≤ a1 ∧ a1 ≤ 4294967295) (b2 : 0 ≤ a2 ∧ a2 ≤ 4294967295) (hn : n ≤ 4096) (hs : StrIn w a n f) :
    Calls Try.prog 6 #[.int .u32 a0, .int .u32 a1, .int .u32 a2, .slice a n cap] w fun e w' => e = .returned (.bool true) ∧ Below w.heap.size w w' := by
  have HS := Lib.hid hs
  clear hs
  obtain ⟨tS, hi, hz0, hz1, hz2⟩ := info_parts infoS
  have HI := Lib.hid (And.intro hi (And.intro hz1 hz2))
  have HZ := Lib.hid hz0
  clear hi hz0 hz1 hz2
  obtain ⟨tP, hi, hz0, hz1, hz2⟩ := info_parts infoP
  have WI := Lib.hid (And.intro hi (And.intro hz1 hz2))
  have WZ := Lib.hid hz0
  clear hi hz0 hz1 hz2
  go_enter Try.func6, Try.ntmps6
  go_wp2_with fail
  refine (zbA_any _ _ _ a n cap f _ HS.out).mono ?_
  rintro e w1 ⟨b, rfl, hb1⟩
  cases b
  · go_wp2_with fail
    go_ret
    exact ⟨rfl, hb1⟩
  have H1 := Lib.hid hb1
  have HS := Lib.hid (HS.out.below hb1)
  clear hb1
  go_wp2_with fail
  go_loop [9, 10] (fun s i => ∃ k : Nat, k ≤ n ∧ stot f k ≤ 1048576 ∧ i = .int .i64 k ∧ s = .int .i64 (8 * n + stot f k)) (fun _ i => n - (intOf i).toNat)
  case atStart => exact ⟨0, Nat.zero_le _, by simp [stot], rfl, by simp [stot]⟩
  case round =>
    obtain ⟨k, hk, ht, rfl, rfl⟩ := hrel
    by_cases hlt : k < n
    · obtain ⟨x, rfl, hc⟩ := HS.out k hlt
      have HT := Lib.hid (stot_succ f k)
      by_cases q1 : 1048576 < (f k).size
      · go_wp2_with fail
        go_ret
        exact ⟨rfl, H1.out⟩
      · by_cases q2 : 1048576 < (8 * n + stot f k : Int) + (f k).size
        · go_wp2_with fail
          go_ret
          exact ⟨rfl, H1.out⟩
        · go_wp2_with fail
          go_round
          case rel => exact ⟨k + 1, by omega, by rw [HT.out]; omega, by go_num, congrArg _ (by rw [HT.out]; omega)⟩
          case measure => simp [intOf]; omega
    · obtain rfl : k = n := by omega
      by_cases g0 : k = 0
      · subst g0
        go_wp2_with fail
        go_ret
        exact ⟨rfl, H1.out⟩
      have g0' : (k == 0) = false := by simp [g0]
      have g0'' : ((k : Int) == 0) = false := by simp [g0]
      by_cases g1 : 1073741824 < a0
      · go_wp2_with fail
        go_ret
        exact ⟨rfl, H1.out⟩
      by_cases g2 : a1 < 1
      · go_wp2_with fail
        go_ret
        exact ⟨rfl, H1.out⟩
      by_cases g3 : 262143 < a1
      · go_wp2_with fail
        go_ret
        exact ⟨rfl, H1.out⟩
      by_cases g4 : a2 < 1
      · go_wp2_with fail
        go_ret
        exact ⟨rfl, H1.out⟩
      by_cases g5 : 16383 < a2
      · go_wp2_with fail
        go_ret
        exact ⟨rfl, H1.out⟩
      go_wp2_with fail
      go_loop [11, 12] (fun s i => ∃ j : Nat, j ≤ k ∧ i = .int .i64 j ∧ s = .int .i64 (stot f j)) (fun _ i => k - (intOf i).toNat)
      case atStart => exact ⟨0, Nat.zero_le _, rfl, by simp [stot]⟩
      case round =>
        obtain ⟨j, hj, rfl, rfl⟩ := hrel
        by_cases hlt : j < k
        · obtain ⟨x, rfl, hc⟩ := HS.out j hlt
          have HT := Lib.hid (stot_succ f j)
          have hle := stot_le f hlt
          go_wp2_with fail
          go_round
          case rel => exact ⟨j + 1, by omega, by go_num, congrArg _ (by rw [HT.out]; omega)⟩
          case measure => simp [intOf]; omega
        · obtain rfl : j = k := by omega
          by_cases g6 : 16383 < a2 + stot f j
          · go_wp2_with fail
            go_ret
            exact ⟨rfl, H1.out⟩
          go_wp2_with (first | (at_make; (refine wpList_make_full _ rfl _ _ 61 rfl w1.heap.size 9 tS (.string ⟨#[]⟩) 1 Try.underlying61 HI.out.1 HZ.out HI.out.2.1 _ _ _ _ j rfl rfl rfl rfl (by rw [HI.out.2.2]; omega) (by unfold maxLen; omega) (Nat.le_refl _) ?_); intro w2 hown hgrow))
          rw [made_cells _ _ rfl, ← partV_zero (strV f) (.string ⟨#[]⟩) j] at hown
          have hbel : Below w1.heap.size w1 w2 := (Below.refl _ _).grown hgrow (Nat.le_refl _) (by simp)
          have HOw := Lib.hid hown
          have HBe := Lib.hid hbel
          clear hgrow hown hbel
          go_loopw [14] (fun i wr => ∃ k : Nat, k ≤ j ∧ i = .int .i64 k ∧ wr.ownsRow w1.heap.size 9 1 (.slice (some ⟨w1.heap.size, 0, none⟩) j j) j (partV (strV f) (.string ⟨#[]⟩) j k) ∧ Below w1.heap.size w1 wr) (fun i _ => j - (intOf i).toNat)
          case atStart => exact ⟨0, Nat.zero_le _, rfl, HOw.out, HBe.out⟩
          case round =>
            obtain ⟨i, hi, rfl, hown, hbel⟩ := hrel
            clear HOw HBe
            by_cases hlt : i < j
            · obtain ⟨x, rfl, c0⟩ := HS.out i hlt
              have c1 := cell_later hbel c0
              have c2 : wr.cell? ⟨w1.heap.size, i, none⟩ = some (.string ⟨#[]⟩) := by
                rw [hown.cellAt i (by omega)]
                exact partV_at _ _ j i hlt
              have f2 := hown.frozenAt i
              have HO := Lib.hid hown
              clear hown c0
              go_wp2_with fail
              go_roundw
              case rel =>
                have hs := (HO.out.stored i (strV f i)).1
                rw [partV_set _ _ j i hlt] at hs
                exact ⟨i + 1, by omega, by go_num, hs, hbel.setCell (Nat.le_refl _) _⟩
              case measure => simp [intOf]; omega
            · obtain rfl : i = j := by omega
              have SO := Lib.hid (strsOf_row hown)
              have H2 := Lib.hid (below_next H1.out hbel)
              clear hown hbel HS
              go_wp2_with (first | (at_make; (refine wpList_make_own _ rfl _ _ 37 rfl wr.heap.size 120 tP .nilIface 1 Try.underlying37 WI.out.1 WZ.out WI.out.2.1 _ _ _ i rfl rfl rfl (by rw [WI.out.2.2]; omega) (by unfold maxLen; omega) (Nat.le_refl _) ?_); intro w3 hown hgrow))
              obtain ⟨wA, rfl⟩ : ∃ wA : World, wA = wr := ⟨_, rfl⟩
              have hR : PR wA.heap.size a0 a1 a2 f i wA (.slice (some ⟨wA.heap.size, 0, none⟩) 0 i) (.int .u32 0) (.int .i64 0) w3 := ⟨0, rfl, rfl, rfl, LPart.start hown hgrow⟩
              have HR := Lib.hid hR
              clear hR hown hgrow
              go_loopw [15, 16, 17] (fun v u i' wr => PR wA.heap.size a0 a1 a2 f i wA v u i' wr) (fun _ _ i' _ => i - (intOf i').toNat)
              case atStart => exact HR.out
              case round =>
                obtain ⟨k, rfl, rfl, rfl, hk, hB, hgz, xs, hown, hlen, hF, hL⟩ := hrel
                clear HR
                by_cases hlt : k < i
                · obtain ⟨p, e, c0⟩ := SO.out k hlt
                  obtain rfl : w1.heap.size = p := by injection e with e; injection e
                  have c1 := cell_later hB c0
                  have hle := stot_le f hlt
                  have HT := Lib.hid (stot_succ f k)
                  have HO := Lib.hid hown
                  have HL := Lib.hid hlen
                  have HB := Lib.hid hB
                  have HF := Lib.hid hF
                  have HP := Lib.hid (show w1.heap.size < wA.heap.size from lt_cell c0)
                  clear hown hlen hB hF hL e c0
                  go_wp2_with fail
                  refine (lit_any _ _ _ _ _ (by omega) (by omega) (by omega)).mono ?_
                  rintro e w4 ⟨b, rfl, hp, hq, hb4⟩
                  have c4 := cell_later hb4 c1
                  have hO4 := HO.out.kept (grown_of hb4 none) (.inr (by simp [Value.ownBlock]))
                  have HO4 := Lib.hid hO4
                  have H4 := Lib.hid hb4
                  have Q1 := Lib.hid (hp.less (lo' := wA.heap.size + 1) (by omega))
                  have Q2 := Lib.hid (hq.less (lo' := wA.heap.size + 1) (by omega))
                  clear hO4 hb4 hp hq c1 HO
                  go_wp2_with (first | (at_builtin; (refine wpList_append_fits _ rfl _ _ 37 rfl wA.heap.size 120 tP 1 Try.underlying37 WI.out.1 WI.out.2.1 wA.heap.size k i xs rfl (HO4.out.alloc _) _ 1 1 [.iface 34 (.pointer (some ⟨b, 0, none⟩))] rfl rfl (new_cell (by simp [Addr.add, go_sem])) (by simp [Value.oneCell']) (by omega) ?_); intro w5 hown5 hg5; have c5 := hg5.cell (cell_alloc c4) (by have := HP.out; simp; omega)))
                  go_roundw
                  case rel =>
                    have hal : Below w4.heap.size w4 (w4.alloc (.cells #[.iface 34 (.pointer (some ⟨b, 0, none⟩))] 120)) := (Below.refl _ _).alloc (Nat.le_refl _) _
                    have e1 : a0 + ((stot f (k + 1) : Nat) : Int) = a0 + stot f k + (f k).size := by rw [HT.out]; omega
                    have e2 : a1 * 16384 + (a2 + ((stot f (k + 1) : Nat) : Int)) = a1 * 16384 + (a2 + stot f k + (f k).size) := by rw [HT.out]; omega
                    refine ⟨k + 1, by go_num, congrArg _ (by rw [HT.out]; omega), rfl, LPart.step hlt rfl HB.out hgz HL.out HF.out (below_next H4.out hal) hown5 hg5 FL.keep (fun h => ⟨b, rfl, ?_⟩) ⟨b, rfl, ?_⟩⟩
                    · have hP := keep_on hg5 (Nat.lt_succ_self _) (Q1.out.keep (Keeps.of_below hal))
                      subst h
                      simpa [stot] using hP
                    · rw [e1, e2]
                      exact keep_on hg5 (Nat.lt_succ_self _) (Q2.out.keep (Keeps.of_below hal))
                  case measure => simp [intOf]; omega
                · obtain rfl : k = i := by omega
                  have LP : LPart 120 (FL wA.heap.size a0 (a1 * 16384 + a2)) (LL wA.heap.size a0 a1 a2 f) k wA.heap.size wA k wr := ⟨hk, hB, hgz, xs, hown, hlen, hF, hL⟩
                  obtain ⟨x, hx, bF, rfl, hPF⟩ := LP.first (by omega)
                  obtain ⟨y, hy, bL, rfl, hPL⟩ := LP.last (by omega)
                  rw [show k - 1 + 1 = k by omega] at hPL
                  have HX := Lib.hid hx
                  have HY := Lib.hid hy
                  have PF := Lib.hid hPF
                  have PL := Lib.hid hPL
                  have H3 := Lib.hid (H2.out.trans (hB.mono H2.out.size))
                  clear LP hx hy hPF hPL hB hown hlen hF hL SO hlt hk
                  go_wp2_with fail
                  refine calls_gen (fun V => Below w.heap.size w V ∧ PosIs Try.prog 29 (wr.heap.size + 1) a0 (a1 * 16384 + a2) V ∧ PosIs Try.prog 30 (wr.heap.size + 1) (a0 + stot f k) (a1 * 16384 + (a2 + stot f k)) V) ⟨below_next H3.out (by go_grown), ?_, ?_⟩ ?_
                  · exact (asPos_bare (c := wr.heap.size) (lo := wA.heap.size) (by simp [go_sem]) (by simp [go_sem]) (by omega) (wordPos_on (s := wA.heap.size) (c := bF) (n := k) (cap := k) (by omega) (by simp [go_sem]) (cell_later (by go_grown) HX.out) (by omega) (by omega) ((PF.out.less (by omega)).keep (Keeps.of_below (by go_grown))))).is
                  · exact (asEnd_on (c := wr.heap.size) (lo := wA.heap.size) (by simp [go_sem]) (by omega) (wordEnd_on (s := wA.heap.size) (c := bL) (n := k) (cap := k) (by omega) (by omega) (by simp [go_sem]) (cell_later (by go_grown) HY.out) (by omega) (by omega) ((PL.out.less (by omega)).keep (Keeps.of_below (by go_grown))))).is
                  rintro V ⟨hV, hA, hE⟩
                  have HV := Lib.hid hV
                  have HE := Lib.hid hE
                  have HA := Lib.hid hA
                  clear hV hE hA HX HY PF PL H3
                  refine (HA.out.now).mono ?_
                  rintro e w5 ⟨rfl, hb5⟩
                  have H5 := Lib.hid hb5
                  clear hb5
                  go_wp2_with fail
                  refine (HE.out _ (H5.out.alloc H5.out.size _)).mono ?_
                  rintro e w6 ⟨rfl, hb6⟩
                  have d0 : w6.cell? ⟨w5.heap.size, 0, none⟩ = some (.int .u32 a0) := cell_later hb6 (by simp [go_sem])
                  have d1 : w6.cell? ⟨w5.heap.size, 1, none⟩ = some (.int .u32 (a1 * 16384 + a2)) := cell_later hb6 (by simp [go_sem])
                  have y0 := lt_cell d0
                  have H6 := Lib.hid (below_next (H5.out.alloc H5.out.size (.cells #[.int .u32 a0, .int .u32 (a1 * 16384 + a2)] 24)) hb6)
                  clear hb6 H5
                  go_wp2_with fail
                  refine (pis_any _ _ _ _ (by omega) (by omega) (by omega)).mono ?_
                  rintro e w7 ⟨rfl, hb7⟩
                  have e0 : w7.cell? ⟨w6.heap.size, 0, none⟩ = some (.int .u32 (a0 + stot f k)) := cell_later hb7 (by simp [go_sem])
                  have e1 : w7.cell? ⟨w6.heap.size, 1, none⟩ = some (.int .u32 (a1 * 16384 + (a2 + stot f k))) := cell_later hb7 (by simp [go_sem])
                  have H7 := Lib.hid (below_next (H6.out.alloc H6.out.size (.cells #[.int .u32 (a0 + stot f k), .int .u32 (a1 * 16384 + (a2 + stot f k))] 24)) hb7)
                  clear hb7 H6 d0 d1
                  go_wp2_with fail
                  refine (pis_any _ _ _ _ (by omega) (by omega) (by omega)).mono ?_
                  rintro e w8 ⟨rfl, hb8⟩
                  go_wp2_with fail
                  go_ret
                  exact ⟨rfl, below_next HV.out (below_next H7.out hb8)⟩

set_option maxRecDepth 100000 in
set_option maxHeartbeats 1000000 in
theorem wide (a0 a1 a2 : Int) (a : Option Addr) (n cap : Nat) (f : Nat → ByteArray) (w : World) (hn : 4096 < n) (hs : StrIn w a n f) :
    Calls Try.prog 6 #[.int .u32 a0, .int .u32 a1, .int .u32 a2, .slice a n cap] w fun e w' => e = .returned (.bool true) ∧ Below w.heap.size w w' := by
  have HS := Lib.hid hs
  clear hs
  go_enter Try.func6, Try.ntmps6
  go_wp2_with fail
  refine (zbA_any _ _ _ a n cap f _ HS.out).mono ?_
  rintro e w1 ⟨b, rfl, hb1⟩
  cases b
  all_goals
    go_wp2_with fail
    go_ret
    exact ⟨rfl, hb1⟩

theorem walk (a0 : Int) (a1 : Int) (a2 : Int) (a3 : Option Addr) (len3 cap3 : Nat) (z3 : List ByteArray) (w : World) (w0 : (Lit.int .u32 a0).wf = true) (w1 : (Lit.int .u32 a1).wf = true) (w2 : (Lit.int .u32 a2).wf = true) (w3 : IsStrs w a3 len3 cap3 z3) :
    Calls Try.prog 6 #[.int .u32 a0, .int .u32 a1, .int .u32 a2, .slice a3 len3 cap3] w fun e w' => e = .returned (.bool true) ∧ Below w.heap.size w w' := by
  have b0 := bounds_u32 w0
  have b1 := bounds_u32 w1
  have b2 := bounds_u32 w2
  clear w0 w1 w2
  have hs := (strIn_of w3).1
  by_cases h : 4096 < len3
  · exact wide a0 a1 a2 a3 len3 cap3 _ w h hs
  · exact main a0 a1 a2 a3 len3 cap3 _ w b0 b1 b2 (by omega) hs
end Go.Proofs.Ytimfajlnlfaffaa.fnAssignNakedDeclArgSpansItsWord
