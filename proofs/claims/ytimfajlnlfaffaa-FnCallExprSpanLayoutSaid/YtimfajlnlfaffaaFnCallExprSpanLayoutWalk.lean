/- The walk of FnCallExprSpanLayout: the Go text returns true. Conditions: none. -/
import Derived.Test.YtimfajlnlfaffaaCallExpr
import Derived.Test.YtimfajlnlfaffaaList
namespace Go.Proofs.Ytimfajlnlfaffaa.fnCallExprSpanLayout
open Go.RowKit
set_option linter.unusedVariables false

set_option maxHeartbeats 400000 in
theorem mk_at (o l c : Int) (w : World) (hl : 0 ≤ l ∧ l ≤ 262143) (hc : 0 ≤ c ∧ c ≤ 16383) :
    Calls Try.prog 54 #[.int .u32 o, .int .u32 l, .int .u32 c] w fun e w' => e = .returned (.agg #[.int .u32 o, .int .u32 (l * 16384 + c)]) ∧ w' = (w.alloc (.cells #[.int .u32 o, .int .u32 (l * 16384 + c)] 24)).alloc (.cells #[.int .u32 o, .int .u32 (l * 16384 + c)] 24) := by
  have hor := or_col l c (by omega) (by omega) (by omega) (by omega)
  have h1 : 0 ≤ l * 16384 := by omega
  have h2 : l * 16384 ≤ 4294967295 := by omega
  go_enter Try.func54, Try.ntmps54
  go_wp2_with (go_at_call 75; go_in)
  go_returns
  exact ⟨rfl, rfl⟩
theorem infoW : (Try.prog.info? 28).map (fun i => (i.zero, i.size, i.bytes)) = some (some (.pointer none), 1, 8) := by kernel_rfl
theorem infoA : (Try.prog.info? 64).map (fun i => (i.zero, i.size, i.bytes)) = some (some (.pointer none), 1, 8) := by kernel_rfl
theorem keep_on {P : Program} {f b g lo : Nat} {o lc : Int} {U w4 : World} (hg : U.grownBy w4 (some g)) (hl : g < lo) (h : PosOn P f b o lc lo U) : PosOn P f b o lc lo w4 := h.keep (Keeps.of_grown hg hl)
/-- how far behind its start an assignment ends -/
def dd (le : Bool) (n k : Nat) : Int := if le = true ∧ k + 1 = n then 3 else 5
theorem dd_five {le : Bool} {n k : Nat} (h : le = false ∨ k + 1 ≠ n) : dd le n k = 5 := by
  unfold dd
  rw [if_neg]
  rintro ⟨h1, h2⟩
  rcases h with h | h
  · rw [h] at h1; cases h1
  · exact h h2
theorem dd_three {n k : Nat} (h : k + 1 = n) : dd true n k = 3 := by unfold dd; rw [if_pos ⟨rfl, h⟩]
def FA (g : Nat) (a0 a1 : Int) : Value → World → Prop := ElemOn Try.prog 29 (g + 1) a0 (16384 + a1)
def LA (g : Nat) (a0 a1 : Int) (le : Bool) (n : Nat) (j : Nat) : Value → World → Prop := ElemOn Try.prog 30 (g + 1) (a0 + 8 * j + dd le n j) ((j + 1) * 16384 + (a1 + dd le n j))
def FW (g : Nat) (a0 a1 : Int) (m : Nat) : Value → World → Prop := ElemOn Try.prog 37 (g + 1) (a0 + 8 * m) ((m + 1) * 16384 + a1)
def LW (g : Nat) (a0 a1 : Int) (m : Nat) (j : Nat) : Value → World → Prop := ElemOn Try.prog 38 (g + 1) (a0 + 8 * (m + j) + 5) ((m + j + 1) * 16384 + (a1 + 5))
def AR (g : Nat) (a0 a1 : Int) (le : Bool) (n : Nat) (w0 : World) (v i : Value) (wr : World) : Prop :=
  ∃ k : Nat, i = .int .i64 k ∧ v = .slice (some ⟨g, 0, none⟩) k n ∧ LPart 64 (FA g a0 a1) (LA g a0 a1 le n) n g w0 k wr
def WR (g : Nat) (a0 a1 : Int) (m n : Nat) (w0 : World) (v i : Value) (wr : World) : Prop :=
  ∃ k : Nat, i = .int .i64 k ∧ v = .slice (some ⟨g, 0, none⟩) k n ∧ LPart 28 (FW g a0 a1 m) (LW g a0 a1 m) n g w0 k wr
theorem new_cell {U : World} {v : Value} {ad : Addr} (h : U.cell? (ad.add 0) = some v) : ∀ j u, [v][j]? = some u → U.cell? (ad.add j) = some u := by
  intro j u hj
  cases j with
  | zero => simp at hj; subst hj; exact h
  | succ j => simp at hj
set_option maxRecDepth 100000 in
set_option maxHeartbeats 4000000 in
theorem main (a0 a1 : Int) (m n : Nat) (le : Bool) (w : World) (h0 : 0 ≤ a0 ∧ a0 ≤ 4294901748) (h1 : 1 ≤ a1 ∧ a1 ≤ 16378) (hm : m ≤ 4096) (hn : n ≤ 4096) (hmn : 1 ≤ m + n) :
    Calls Try.prog 10 #[.int .u32 a0, .int .u32 a1, .int .i64 m, .int .i64 n, .bool le] w fun e w' => e = .returned (.bool true) ∧ Below w.heap.size w w' := by
  obtain ⟨tA, hi, hz0, hz1, hz2⟩ := info_parts infoA
  have HI := Lib.hid (And.intro hi (And.intro hz1 hz2))
  have HZ := Lib.hid hz0
  clear hi hz0 hz1 hz2
  obtain ⟨tW, hi, hz0, hz1, hz2⟩ := info_parts infoW
  have WI := Lib.hid (And.intro hi (And.intro hz1 hz2))
  have WZ := Lib.hid hz0
  clear hi hz0 hz1 hz2
  go_enter Try.func10, Try.ntmps10
  go_wp2_with (first | (at_make; (refine wpList_make_own _ rfl _ _ 88 rfl w.heap.size 64 tA (.pointer none) 1 Try.underlying88 HI.out.1 HZ.out HI.out.2.1 _ _ _ m rfl rfl rfl (by rw [HI.out.2.2]; omega) (by unfold maxLen; omega) (Nat.le_refl _) ?_); intro w1 hown hgrow))
  have hR : AR w.heap.size a0 a1 le m w (.slice (some ⟨w.heap.size, 0, none⟩) 0 m) (.int .i64 0) w1 := ⟨0, rfl, rfl, LPart.start hown hgrow⟩
  have HR := Lib.hid hR
  clear hR hown hgrow
  go_loopw [11, 12] (fun v i wr => AR w.heap.size a0 a1 le m w v i wr) (fun _ i _ => m - (intOf i).toNat)
  case atStart => exact HR.out
  case round =>
    obtain ⟨k, rfl, rfl, hk, hB, hgz, xs, hown, hlen, hF, hL⟩ := hrel
    clear HR
    by_cases hlt : k < m
    · have HO := Lib.hid hown
      have HL := Lib.hid hlen
      have HB := Lib.hid hB
      have HF := Lib.hid hF
      clear hown hlen hB hF hL
      by_cases hc : le = false ∨ k + 1 ≠ m
      · have hq : le = false ∨ (le = true ∧ ((k : Int) == (m : Int) - 1) = false) := by
          rcases hc with h | h
          · exact .inl h
          · cases le
            · exact .inl rfl
            · exact .inr ⟨rfl, by simp; omega⟩
        have HD := Lib.hid (dd_five hc)
        clear hc
        rcases hq with rfl | ⟨rfl, hq⟩
        all_goals
          go_wp2_with (first | (go_at_call 54; (with_reducible refine (mk_at _ _ _ _ (by omega) (by omega)).mono ?_); rintro e wM ⟨rfl, rfl⟩) | (at_builtin; (refine wpList_append_fits _ rfl _ _ 88 rfl w.heap.size 64 tA 1 Try.underlying88 HI.out.1 HI.out.2.1 w.heap.size k m xs rfl (HO.out.kept (grown_of (by go_grown) none) (.inr (by simp [Value.ownBlock]))) _ 1 1 [.pointer (some ⟨wr.heap.size + 1 + 1 + 1 + 1 + 1, 0, none⟩)] rfl rfl (new_cell (by simp [Addr.add, go_sem])) (by simp [Value.oneCell']) (by omega) ?_); intro w4 hown4 hg4))
          go_roundw
          case rel =>
            refine ⟨k + 1, by go_num, rfl, LPart.step hlt rfl HB.out hgz HL.out HF.out (by go_grown) hown4 hg4 (ElemOn.keep) (fun h => ?_) ?_⟩
            · have hP := keep_on hg4 (Nat.lt_succ_self _) (asPos_on (b := wr.heap.size + 1 + 1 + 1 + 1 + 1) (c := wr.heap.size + 1 + 1 + 1 + 1) (o := a0 + 8 * k) (lc := (k + 1) * 16384 + a1) (lo := w.heap.size + 1) (by simp [go_sem]) (by omega) (litPos_on (by simp [go_sem]) (by simp [go_sem]) (by omega)))
              subst h
              exact ⟨_, rfl, by simpa using hP⟩
            · have hP := keep_on hg4 (Nat.lt_succ_self _) (asEnd_on (b := wr.heap.size + 1 + 1 + 1 + 1 + 1) (c := wr.heap.size + 1 + 1 + 1 + 1 + 1 + 1 + 1 + 1 + 1 + 1 + 1 + 1) (o := a0 + 8 * k + 5) (lc := (k + 1) * 16384 + (a1 + 5)) (lo := w.heap.size + 1) (by simp [go_sem]) (by omega) (wordEnd_on (s := wr.heap.size + 1 + 1 + 1 + 1 + 1 + 1 + 1 + 1 + 1 + 1 + 1) (c := wr.heap.size + 1 + 1 + 1 + 1 + 1 + 1 + 1 + 1 + 1 + 1) (n := 1) (cap := 1) (by omega) (by omega) (by simp [go_sem]) (by simp [go_sem]) (by omega) (by omega) (litEnd_on (by simp [go_sem]) (by simp [go_sem]) (by omega))))
              refine ⟨_, rfl, ?_⟩
              rw [HD.out]
              exact hP
          case measure => simp [intOf]; omega
      · obtain ⟨rfl, hl⟩ : le = true ∧ k + 1 = m := by
          cases le
          · exact absurd (.inl rfl) hc
          · exact ⟨rfl, by omega⟩
        have hq : ((k : Int) == (m : Int) - 1) = true := by simp; omega
        have HD := Lib.hid (dd_three hl)
        clear hc hl
        go_wp2_with (first | (go_at_call 54; (with_reducible refine (mk_at _ _ _ _ (by omega) (by omega)).mono ?_); rintro e wM ⟨rfl, rfl⟩) | (at_builtin; (refine wpList_append_fits _ rfl _ _ 88 rfl w.heap.size 64 tA 1 Try.underlying88 HI.out.1 HI.out.2.1 w.heap.size k m xs rfl (HO.out.kept (grown_of (by go_grown) none) (.inr (by simp [Value.ownBlock]))) _ 1 1 [.pointer (some ⟨wr.heap.size + 1 + 1 + 1 + 1 + 1, 0, none⟩)] rfl rfl (new_cell (by simp [Addr.add, go_sem])) (by simp [Value.oneCell']) (by omega) ?_); intro w4 hown4 hg4))
        go_roundw
        case rel =>
          refine ⟨k + 1, by go_num, rfl, LPart.step hlt rfl HB.out hgz HL.out HF.out (by go_grown) hown4 hg4 (ElemOn.keep) (fun h => ?_) ?_⟩
          · have hP := keep_on hg4 (Nat.lt_succ_self _) (asPos_on (b := wr.heap.size + 1 + 1 + 1 + 1 + 1) (c := wr.heap.size + 1 + 1 + 1 + 1) (o := a0 + 8 * k) (lc := (k + 1) * 16384 + a1) (lo := w.heap.size + 1) (by simp [go_sem]) (by omega) (litPos_on (by simp [go_sem]) (by simp [go_sem]) (by omega)))
            subst h
            exact ⟨_, rfl, by simpa using hP⟩
          · have hP := keep_on hg4 (Nat.lt_succ_self _) (asEnd_name (b := wr.heap.size + 1 + 1 + 1 + 1 + 1) (c := wr.heap.size + 1 + 1 + 1 + 1) (o := a0 + 8 * k + 2) (lc := (k + 1) * 16384 + (a1 + 2)) (lo := w.heap.size + 1) (by omega) (by omega) (by simp [go_sem]) (by simp [go_sem]) (by simp [go_sem]) (by simp [go_sem]) (by simp [go_sem]) (by omega) (litEnd_on (by simp [go_sem]) (by simp [go_sem]) (by omega)))
            rw [addO_to _ _ 1 (a0 + 8 * k + 3) (by omega) (by omega) (by omega) (by omega), addLc_to _ ((k : Int) + 1) (a1 + 2) 1 (a1 + 3) (by omega) (by omega) (by omega) (by omega) (by omega)] at hP
            refine ⟨_, rfl, ?_⟩
            rw [HD.out]
            exact hP
        case measure => simp [intOf]; omega
    · obtain rfl : k = m := by omega
      have LAh : LPart 64 (FA w.heap.size a0 a1) (LA w.heap.size a0 a1 le k) k w.heap.size w k wr := ⟨hk, hB, hgz, xs, hown, hlen, hF, hL⟩
      have hA : 0 < k → (∃ b, wr.cell? ⟨w.heap.size, 0, none⟩ = some (.pointer (some ⟨b, 0, none⟩)) ∧ PosIs Try.prog 29 b a0 (16384 + a1) wr) ∧ (∃ b, wr.cell? ⟨w.heap.size, k - 1, none⟩ = some (.pointer (some ⟨b, 0, none⟩)) ∧ PosIs Try.prog 30 b (a0 + 8 * (k - 1 : Nat) + dd le k (k - 1)) (((k - 1 : Nat) + 1) * 16384 + (a1 + dd le k (k - 1))) wr) := by
        intro h
        obtain ⟨x, h1, b, rfl, h2⟩ := LAh.first h
        obtain ⟨y, h3, c, rfl, h4⟩ := LAh.last h
        exact ⟨⟨b, h1, h2.is⟩, ⟨c, h3, h4.is⟩⟩
      have HA := Lib.hid hA
      have HB := Lib.hid hB
      clear hA LAh hown hlen hF hL hB hlt hk
      go_wp2_with (first | (at_make; (refine wpList_make_own _ rfl _ _ 85 rfl wr.heap.size 28 tW (.pointer none) 1 Try.underlying85 WI.out.1 WZ.out WI.out.2.1 _ _ _ n rfl rfl rfl (by rw [WI.out.2.2]; omega) (by unfold maxLen; omega) (Nat.le_refl _) ?_); intro w2 hown hgrow))
      obtain ⟨wA, rfl⟩ : ∃ wA : World, wA = wr := ⟨_, rfl⟩
      have hR : WR wA.heap.size a0 a1 k n wA (.slice (some ⟨wA.heap.size, 0, none⟩) 0 n) (.int .i64 0) w2 := ⟨0, rfl, rfl, LPart.start hown hgrow⟩
      have HR := Lib.hid hR
      clear hR hown hgrow
      go_loopw [16, 17] (fun v i wr => WR wA.heap.size a0 a1 k n wA v i wr) (fun _ i _ => n - (intOf i).toNat)
      case atStart => exact HR.out
      case round =>
        obtain ⟨j, rfl, rfl, hj, hB2, hgz2, xs, hown, hlen, hF, hL⟩ := hrel
        clear HR
        by_cases hlt : j < n
        · have HO := Lib.hid hown
          have HL := Lib.hid hlen
          have H2 := Lib.hid hB2
          have HF := Lib.hid hF
          clear hown hlen hB2 hF hL
          go_wp2_with (first | (go_at_call 54; (with_reducible refine (mk_at _ _ _ _ (by omega) (by omega)).mono ?_); rintro e wM ⟨rfl, rfl⟩) | (at_builtin; (refine wpList_append_fits _ rfl _ _ 85 rfl wA.heap.size 28 tW 1 Try.underlying85 WI.out.1 WI.out.2.1 wA.heap.size j n xs rfl (HO.out.kept (grown_of (by go_grown) none) (.inr (by simp [Value.ownBlock]))) _ 1 1 [.pointer (some ⟨wr.heap.size + 1 + 1 + 1 + 1 + 1 + 1, 0, none⟩)] rfl rfl (new_cell (by simp [Addr.add, go_sem])) (by simp [Value.oneCell']) (by omega) ?_); intro w4 hown4 hg4))
          go_roundw
          case rel =>
            refine ⟨j + 1, by go_num, rfl, LPart.step hlt rfl H2.out hgz2 HL.out HF.out (by go_grown) hown4 hg4 (ElemOn.keep) (fun h => ?_) ?_⟩
            · have hP := keep_on hg4 (Nat.lt_succ_self _) (wordPos_on (b := wr.heap.size + 1 + 1 + 1 + 1 + 1 + 1) (s := wr.heap.size + 1 + 1 + 1 + 1 + 1) (c := wr.heap.size + 1 + 1 + 1 + 1) (n := 1) (cap := 1) (o := a0 + 8 * (k + j)) (lc := (k + j + 1) * 16384 + a1) (lo := wA.heap.size + 1) (by omega) (by simp [go_sem]) (by simp [go_sem]) (by omega) (by omega) (litPos_on (by simp [go_sem]) (by simp [go_sem]) (by omega)))
              subst h
              exact ⟨_, rfl, by simpa using hP⟩
            · have hP := keep_on hg4 (Nat.lt_succ_self _) (wordEnd_on (b := wr.heap.size + 1 + 1 + 1 + 1 + 1 + 1) (s := wr.heap.size + 1 + 1 + 1 + 1 + 1) (c := wr.heap.size + 1 + 1 + 1 + 1) (n := 1) (cap := 1) (o := a0 + 8 * (k + j) + 5) (lc := (k + j + 1) * 16384 + (a1 + 5)) (lo := wA.heap.size + 1) (by omega) (by omega) (by simp [go_sem]) (by simp [go_sem]) (by omega) (by omega) (litEnd_on (by simp [go_sem]) (by simp [go_sem]) (by omega)))
              exact ⟨_, rfl, hP⟩
          case measure => simp [intOf]; omega
        · obtain rfl : j = n := by omega
          have LWh : LPart 28 (FW wA.heap.size a0 a1 k) (LW wA.heap.size a0 a1 k) j wA.heap.size wA j wr := ⟨hj, hB2, hgz2, xs, hown, hlen, hF, hL⟩
          have hW : 0 < j → (∃ b, wr.cell? ⟨wA.heap.size, 0, none⟩ = some (.pointer (some ⟨b, 0, none⟩)) ∧ PosIs Try.prog 37 b (a0 + 8 * k) ((k + 1) * 16384 + a1) wr) ∧ (∃ b, wr.cell? ⟨wA.heap.size, j - 1, none⟩ = some (.pointer (some ⟨b, 0, none⟩)) ∧ PosIs Try.prog 38 b (a0 + 8 * (k + (j - 1 : Nat)) + 5) ((k + (j - 1 : Nat) + 1) * 16384 + (a1 + 5)) wr) := by
            intro h
            obtain ⟨x, h1, b, rfl, h2⟩ := LWh.first h
            obtain ⟨y, h3, c, rfl, h4⟩ := LWh.last h
            exact ⟨⟨b, h1, h2.is⟩, ⟨c, h3, h4.is⟩⟩
          have HW := Lib.hid hW
          have H2 := Lib.hid (HB.out.trans (hB2.mono HB.out.size))
          have hA2 : 0 < k → (∃ b, wr.cell? ⟨w.heap.size, 0, none⟩ = some (.pointer (some ⟨b, 0, none⟩)) ∧ PosIs Try.prog 29 b a0 (16384 + a1) wr) ∧ (∃ b, wr.cell? ⟨w.heap.size, k - 1, none⟩ = some (.pointer (some ⟨b, 0, none⟩)) ∧ PosIs Try.prog 30 b (a0 + 8 * (k - 1 : Nat) + dd le k (k - 1)) (((k - 1 : Nat) + 1) * 16384 + (a1 + dd le k (k - 1))) wr) := by
            intro h
            obtain ⟨⟨b, h1, h2⟩, ⟨c, h3, h4⟩⟩ := HA.out h
            exact ⟨⟨b, cell_later hB2 h1, h2.grow hB2⟩, ⟨c, cell_later hB2 h3, h4.grow hB2⟩⟩
          have HA := Lib.hid hA2
          clear hW LWh hown hlen hF hL hB2 hlt hj HB hA2
          by_cases hj0 : 0 < j
          · by_cases hk0 : 0 < k
            · have q0 : ((j : Int) == 0) = false := by simp; omega
              have q1 : (j == 0) = false := by simp; omega
              obtain ⟨⟨b1, x1, p1⟩, ⟨b2, x2, p2⟩⟩ := HW.out hj0
              have p2 : PosIs Try.prog 38 b2 (a0 + 8 * (k + j - 1) + 5) ((k + j) * 16384 + (a1 + 5)) wr := by
                have e1 : (k : Int) + ((j - 1 : Nat) : Int) = k + j - 1 := by omega
                rw [e1, Int.sub_add_cancel] at p2
                exact p2
              obtain ⟨⟨b3, x3, p3⟩, ⟨b4, x4, p4⟩⟩ := HA.out hk0
              have X1 := Lib.hid x1
              have X2 := Lib.hid x2
              have P1 := Lib.hid p1
              have P2 := Lib.hid p2
              have X3 := Lib.hid x3
              have X4 := Lib.hid x4
              have P3 := Lib.hid p3
              have P4 := Lib.hid p4
              clear x1 x2 p1 p2 x3 x4 p3 p4 HW HA
              go_wp2_with (first | (go_at_call 54; (with_reducible refine (mk_at _ _ _ _ (by omega) (by omega)).mono ?_); rintro e wM ⟨rfl, rfl⟩))
              refine (cePos_a (x := wr.heap.size) (g := w.heap.size) (cap := k) hk0 ?_ ?_ (P3.out.grow (by go_grown))).mono ?_
              · simp [go_sem]
              · exact cell_later (by go_grown) X3.out
              rintro e w5 ⟨rfl, hb5⟩
              have hW5 : Below wr.heap.size wr w5 := below_next (by go_grown) hb5
              have c0 : w5.cell? ⟨wr.heap.size, 0, none⟩ = some (.slice (some ⟨w.heap.size, 0, none⟩) k k) := cell_later hb5 (by simp [go_sem])
              have c1 : w5.cell? ⟨wr.heap.size, 1, none⟩ = some (.slice (some ⟨wA.heap.size, 0, none⟩) j j) := cell_later hb5 (by simp [go_sem])
              have c2 : w5.cell? ⟨wr.heap.size + 1 + 1 + 1, 0, none⟩ = some (.int .u32 a0) := cell_later hb5 (by simp [go_sem])
              have c3 : w5.cell? ⟨wr.heap.size + 1 + 1 + 1, 1, none⟩ = some (.int .u32 (16384 + a1)) := cell_later hb5 (by simp [go_sem])
              have c4 : w5.cell? ⟨wr.heap.size + 1 + 1 + 1 + 1 + 1 + 1, 0, none⟩ = some (.int .u32 (a0 + 8 * (k + j - 1) + 5)) := cell_later hb5 (by simp [go_sem])
              have c5 : w5.cell? ⟨wr.heap.size + 1 + 1 + 1 + 1 + 1 + 1, 1, none⟩ = some (.int .u32 ((k + j) * 16384 + (a1 + 5))) := cell_later hb5 (by simp [go_sem])
              have H5 := Lib.hid hW5
              have z5 := hW5.size
              clear hb5 hW5
              go_wp2_with fail
              have hal : Below wr.heap.size wr (w5.alloc (.cells #[.int .u32 a0, .int .u32 (16384 + a1)] 24)) := H5.out.alloc z5 _
              refine (ceEnd_w (x := wr.heap.size) (g := wA.heap.size) (cap := j) hj0 (by omega) (cell_alloc c1) (cell_later hal X2.out) (P2.out.grow hal)).mono ?_
              rintro e w6 ⟨rfl, hb6⟩
              have d0 : w6.cell? ⟨w5.heap.size, 0, none⟩ = some (.int .u32 a0) := cell_later hb6 (by simp [go_sem])
              have d1 : w6.cell? ⟨w5.heap.size, 1, none⟩ = some (.int .u32 (16384 + a1)) := cell_later hb6 (by simp [go_sem])
              have d2 := cell_later hb6 (cell_alloc (o := .cells #[.int .u32 a0, .int .u32 (16384 + a1)] 24) c2)
              have d3 := cell_later hb6 (cell_alloc (o := .cells #[.int .u32 a0, .int .u32 (16384 + a1)] 24) c3)
              have d4 := cell_later hb6 (cell_alloc (o := .cells #[.int .u32 a0, .int .u32 (16384 + a1)] 24) c4)
              have d5 := cell_later hb6 (cell_alloc (o := .cells #[.int .u32 a0, .int .u32 (16384 + a1)] 24) c5)
              have H6 := Lib.hid (below_next (H2.out.trans (hal.mono H2.out.size)) hb6)
              clear hb6 hal c0 c1 c2 c3 c4 c5
              have y0 := lt_cell d0
              have y2 := lt_cell d2
              have y4 := lt_cell d4
              go_wp2_with fail
              refine (after_is _ _ _ _ true _ (by omega) (by omega) (by simp; omega)).mono ?_
              rintro e w7 ⟨rfl, hb7⟩
              go_wp2_with fail
              go_ret
              exact ⟨rfl, below_next H6.out (below_next (by go_grown) hb7)⟩
            · obtain rfl : k = 0 := by omega
              have q0 : ((j : Int) == 0) = false := by simp; omega
              have q1 : (j == 0) = false := by simp; omega
              obtain ⟨⟨b1, x1, p1⟩, ⟨b2, x2, p2⟩⟩ := HW.out hj0
              have p2 : PosIs Try.prog 38 b2 (a0 + 8 * (j - 1) + 5) ((j) * 16384 + (a1 + 5)) wr := by
                have e1 : ((0 : Nat) : Int) + ((j - 1 : Nat) : Int) = j - 1 := by omega
                rw [e1, Int.sub_add_cancel] at p2
                exact p2
              have p1 : PosIs Try.prog 37 b1 a0 (16384 + a1) wr := by simpa using p1
              have X1 := Lib.hid x1
              have X2 := Lib.hid x2
              have P1 := Lib.hid p1
              have P2 := Lib.hid p2
              clear x1 x2 p1 p2 HW HA
              go_wp2_with (first | (go_at_call 54; (with_reducible refine (mk_at _ _ _ _ (by omega) (by omega)).mono ?_); rintro e wM ⟨rfl, rfl⟩))
              refine (cePos_w (x := wr.heap.size) (g := wA.heap.size) (cap := j) (c0 := 0) (A := some ⟨w.heap.size, 0, none⟩) hj0 ?_ ?_ ?_ (P1.out.grow (by go_grown))).mono ?_
              · simp [go_sem]
              · simp [go_sem]
              · exact cell_later (by go_grown) X1.out
              rintro e w5 ⟨rfl, hb5⟩
              have hW5 : Below wr.heap.size wr w5 := below_next (by go_grown) hb5
              have c0 : w5.cell? ⟨wr.heap.size, 0, none⟩ = some (.slice (some ⟨w.heap.size, 0, none⟩) 0 0) := cell_later hb5 (by simp [go_sem])
              have c1 : w5.cell? ⟨wr.heap.size, 1, none⟩ = some (.slice (some ⟨wA.heap.size, 0, none⟩) j j) := cell_later hb5 (by simp [go_sem])
              have c2 : w5.cell? ⟨wr.heap.size + 1 + 1 + 1, 0, none⟩ = some (.int .u32 a0) := cell_later hb5 (by simp [go_sem])
              have c3 : w5.cell? ⟨wr.heap.size + 1 + 1 + 1, 1, none⟩ = some (.int .u32 (16384 + a1)) := cell_later hb5 (by simp [go_sem])
              have c4 : w5.cell? ⟨wr.heap.size + 1 + 1 + 1 + 1 + 1 + 1, 0, none⟩ = some (.int .u32 (a0 + 8 * (j - 1) + 5)) := cell_later hb5 (by simp [go_sem])
              have c5 : w5.cell? ⟨wr.heap.size + 1 + 1 + 1 + 1 + 1 + 1, 1, none⟩ = some (.int .u32 ((j) * 16384 + (a1 + 5))) := cell_later hb5 (by simp [go_sem])
              have H5 := Lib.hid hW5
              have z5 := hW5.size
              clear hb5 hW5
              go_wp2_with fail
              have hal : Below wr.heap.size wr (w5.alloc (.cells #[.int .u32 a0, .int .u32 (16384 + a1)] 24)) := H5.out.alloc z5 _
              refine (ceEnd_w (x := wr.heap.size) (g := wA.heap.size) (cap := j) hj0 (by omega) (cell_alloc c1) (cell_later hal X2.out) (P2.out.grow hal)).mono ?_
              rintro e w6 ⟨rfl, hb6⟩
              have d0 : w6.cell? ⟨w5.heap.size, 0, none⟩ = some (.int .u32 a0) := cell_later hb6 (by simp [go_sem])
              have d1 : w6.cell? ⟨w5.heap.size, 1, none⟩ = some (.int .u32 (16384 + a1)) := cell_later hb6 (by simp [go_sem])
              have d2 := cell_later hb6 (cell_alloc (o := .cells #[.int .u32 a0, .int .u32 (16384 + a1)] 24) c2)
              have d3 := cell_later hb6 (cell_alloc (o := .cells #[.int .u32 a0, .int .u32 (16384 + a1)] 24) c3)
              have d4 := cell_later hb6 (cell_alloc (o := .cells #[.int .u32 a0, .int .u32 (16384 + a1)] 24) c4)
              have d5 := cell_later hb6 (cell_alloc (o := .cells #[.int .u32 a0, .int .u32 (16384 + a1)] 24) c5)
              have H6 := Lib.hid (below_next (H2.out.trans (hal.mono H2.out.size)) hb6)
              clear hb6 hal c0 c1 c2 c3 c4 c5
              have y0 := lt_cell d0
              have y2 := lt_cell d2
              have y4 := lt_cell d4
              go_wp2_with fail
              refine (after_is _ _ _ _ true _ (by omega) (by omega) (by simp; omega)).mono ?_
              rintro e w7 ⟨rfl, hb7⟩
              go_wp2_with fail
              go_ret
              exact ⟨rfl, below_next H6.out (below_next (by go_grown) hb7)⟩
          · obtain rfl : j = 0 := by omega
            have hk0 : 0 < k := by omega
            cases le
            · obtain ⟨⟨b3, x3, p3⟩, ⟨b4, x4, p4⟩⟩ := HA.out hk0
              have p4 : PosIs Try.prog 30 b4 (a0 + 8 * (k - 1) + 5) ((k) * 16384 + (a1 + 5)) wr := by
                have e1 : ((k - 1 : Nat) : Int) = k - 1 := by omega
                rw [dd_five (.inl rfl), e1, Int.sub_add_cancel] at p4
                exact p4
              have X3 := Lib.hid x3
              have X4 := Lib.hid x4
              have P3 := Lib.hid p3
              have P4 := Lib.hid p4
              clear x3 x4 p3 p4 HW HA
              go_wp2_with (first | (go_at_call 54; (with_reducible refine (mk_at _ _ _ _ (by omega) (by omega)).mono ?_); rintro e wM ⟨rfl, rfl⟩))
              refine (cePos_a (x := wr.heap.size) (g := w.heap.size) (cap := k) hk0 ?_ ?_ (P3.out.grow (by go_grown))).mono ?_
              · simp [go_sem]
              · exact cell_later (by go_grown) X3.out
              rintro e w5 ⟨rfl, hb5⟩
              have hW5 : Below wr.heap.size wr w5 := below_next (by go_grown) hb5
              have c0 : w5.cell? ⟨wr.heap.size, 0, none⟩ = some (.slice (some ⟨w.heap.size, 0, none⟩) k k) := cell_later hb5 (by simp [go_sem])
              have c1 : w5.cell? ⟨wr.heap.size, 1, none⟩ = some (.slice (some ⟨wA.heap.size, 0, none⟩) 0 0) := cell_later hb5 (by simp [go_sem])
              have c2 : w5.cell? ⟨wr.heap.size + 1 + 1 + 1, 0, none⟩ = some (.int .u32 a0) := cell_later hb5 (by simp [go_sem])
              have c3 : w5.cell? ⟨wr.heap.size + 1 + 1 + 1, 1, none⟩ = some (.int .u32 (16384 + a1)) := cell_later hb5 (by simp [go_sem])
              have c4 : w5.cell? ⟨wr.heap.size + 1 + 1 + 1 + 1 + 1 + 1, 0, none⟩ = some (.int .u32 (a0 + 8 * (k - 1) + 5)) := cell_later hb5 (by simp [go_sem])
              have c5 : w5.cell? ⟨wr.heap.size + 1 + 1 + 1 + 1 + 1 + 1, 1, none⟩ = some (.int .u32 ((k) * 16384 + (a1 + 5))) := cell_later hb5 (by simp [go_sem])
              have H5 := Lib.hid hW5
              have z5 := hW5.size
              clear hb5 hW5
              go_wp2_with fail
              have hal : Below wr.heap.size wr (w5.alloc (.cells #[.int .u32 a0, .int .u32 (16384 + a1)] 24)) := H5.out.alloc z5 _
              refine (ceEnd_a (x := wr.heap.size) (g := w.heap.size) (cap := k) (c0 := 0) (A := some ⟨wA.heap.size, 0, none⟩) hk0 (by omega) (cell_alloc c1) (cell_alloc c0) (cell_later hal X4.out) (P4.out.grow hal)).mono ?_
              rintro e w6 ⟨rfl, hb6⟩
              have d0 : w6.cell? ⟨w5.heap.size, 0, none⟩ = some (.int .u32 a0) := cell_later hb6 (by simp [go_sem])
              have d1 : w6.cell? ⟨w5.heap.size, 1, none⟩ = some (.int .u32 (16384 + a1)) := cell_later hb6 (by simp [go_sem])
              have d2 := cell_later hb6 (cell_alloc (o := .cells #[.int .u32 a0, .int .u32 (16384 + a1)] 24) c2)
              have d3 := cell_later hb6 (cell_alloc (o := .cells #[.int .u32 a0, .int .u32 (16384 + a1)] 24) c3)
              have d4 := cell_later hb6 (cell_alloc (o := .cells #[.int .u32 a0, .int .u32 (16384 + a1)] 24) c4)
              have d5 := cell_later hb6 (cell_alloc (o := .cells #[.int .u32 a0, .int .u32 (16384 + a1)] 24) c5)
              have H6 := Lib.hid (below_next (H2.out.trans (hal.mono H2.out.size)) hb6)
              clear hb6 hal c0 c1 c2 c3 c4 c5
              have y0 := lt_cell d0
              have y2 := lt_cell d2
              have y4 := lt_cell d4
              go_wp2_with fail
              refine (after_is _ _ _ _ true _ (by omega) (by omega) (by simp; omega)).mono ?_
              rintro e w7 ⟨rfl, hb7⟩
              go_wp2_with fail
              go_ret
              exact ⟨rfl, below_next H6.out (below_next (by go_grown) hb7)⟩
            · obtain ⟨⟨b3, x3, p3⟩, ⟨b4, x4, p4⟩⟩ := HA.out hk0
              have p4 : PosIs Try.prog 30 b4 (a0 + 8 * (k - 1) + 3) ((k) * 16384 + (a1 + 3)) wr := by
                have e1 : ((k - 1 : Nat) : Int) = k - 1 := by omega
                rw [dd_three (by omega), e1, Int.sub_add_cancel] at p4
                exact p4
              have X3 := Lib.hid x3
              have X4 := Lib.hid x4
              have P3 := Lib.hid p3
              have P4 := Lib.hid p4
              clear x3 x4 p3 p4 HW HA
              go_wp2_with (first | (go_at_call 54; (with_reducible refine (mk_at _ _ _ _ (by omega) (by omega)).mono ?_); rintro e wM ⟨rfl, rfl⟩))
              refine (cePos_a (x := wr.heap.size) (g := w.heap.size) (cap := k) hk0 ?_ ?_ (P3.out.grow (by go_grown))).mono ?_
              · simp [go_sem]
              · exact cell_later (by go_grown) X3.out
              rintro e w5 ⟨rfl, hb5⟩
              have hW5 : Below wr.heap.size wr w5 := below_next (by go_grown) hb5
              have c0 : w5.cell? ⟨wr.heap.size, 0, none⟩ = some (.slice (some ⟨w.heap.size, 0, none⟩) k k) := cell_later hb5 (by simp [go_sem])
              have c1 : w5.cell? ⟨wr.heap.size, 1, none⟩ = some (.slice (some ⟨wA.heap.size, 0, none⟩) 0 0) := cell_later hb5 (by simp [go_sem])
              have c2 : w5.cell? ⟨wr.heap.size + 1 + 1 + 1, 0, none⟩ = some (.int .u32 a0) := cell_later hb5 (by simp [go_sem])
              have c3 : w5.cell? ⟨wr.heap.size + 1 + 1 + 1, 1, none⟩ = some (.int .u32 (16384 + a1)) := cell_later hb5 (by simp [go_sem])
              have c4 : w5.cell? ⟨wr.heap.size + 1 + 1 + 1 + 1 + 1 + 1, 0, none⟩ = some (.int .u32 (a0 + 8 * (k - 1) + 3)) := cell_later hb5 (by simp [go_sem])
              have c5 : w5.cell? ⟨wr.heap.size + 1 + 1 + 1 + 1 + 1 + 1, 1, none⟩ = some (.int .u32 ((k) * 16384 + (a1 + 3))) := cell_later hb5 (by simp [go_sem])
              have H5 := Lib.hid hW5
              have z5 := hW5.size
              clear hb5 hW5
              go_wp2_with fail
              have hal : Below wr.heap.size wr (w5.alloc (.cells #[.int .u32 a0, .int .u32 (16384 + a1)] 24)) := H5.out.alloc z5 _
              refine (ceEnd_a (x := wr.heap.size) (g := w.heap.size) (cap := k) (c0 := 0) (A := some ⟨wA.heap.size, 0, none⟩) hk0 (by omega) (cell_alloc c1) (cell_alloc c0) (cell_later hal X4.out) (P4.out.grow hal)).mono ?_
              rintro e w6 ⟨rfl, hb6⟩
              have d0 : w6.cell? ⟨w5.heap.size, 0, none⟩ = some (.int .u32 a0) := cell_later hb6 (by simp [go_sem])
              have d1 : w6.cell? ⟨w5.heap.size, 1, none⟩ = some (.int .u32 (16384 + a1)) := cell_later hb6 (by simp [go_sem])
              have d2 := cell_later hb6 (cell_alloc (o := .cells #[.int .u32 a0, .int .u32 (16384 + a1)] 24) c2)
              have d3 := cell_later hb6 (cell_alloc (o := .cells #[.int .u32 a0, .int .u32 (16384 + a1)] 24) c3)
              have d4 := cell_later hb6 (cell_alloc (o := .cells #[.int .u32 a0, .int .u32 (16384 + a1)] 24) c4)
              have d5 := cell_later hb6 (cell_alloc (o := .cells #[.int .u32 a0, .int .u32 (16384 + a1)] 24) c5)
              have H6 := Lib.hid (below_next (H2.out.trans (hal.mono H2.out.size)) hb6)
              clear hb6 hal c0 c1 c2 c3 c4 c5
              have y0 := lt_cell d0
              have y2 := lt_cell d2
              have y4 := lt_cell d4
              go_wp2_with fail
              refine (after_is _ _ _ _ true _ (by omega) (by omega) (by simp; omega)).mono ?_
              rintro e w7 ⟨rfl, hb7⟩
              go_wp2_with fail
              go_ret
              exact ⟨rfl, below_next H6.out (below_next (by go_grown) hb7)⟩

set_option maxRecDepth 100000 in
set_option maxHeartbeats 1000000 in
theorem walk (a0 : Int) (a1 : Int) (a2 : Int) (a3 : Int) (a4 : Bool) (w : World) (w0 : (Lit.int .u32 a0).wf = true) (w1 : (Lit.int .u32 a1).wf = true) (w2 : (Lit.int .i64 a2).wf = true) (w3 : (Lit.int .i64 a3).wf = true) :
    Calls Try.prog 10 #[.int .u32 a0, .int .u32 a1, .int .i64 a2, .int .i64 a3, .bool a4] w fun e w' => e = .returned (.bool true) ∧ Below w.heap.size w w' := by
  have b0 := bounds_u32 w0
  have b1 := bounds_u32 w1
  have b2 := bounds_i64 w2
  have b3 := bounds_i64 w3
  clear w0 w1 w2 w3
  by_cases g1 : 4294901748 < a0
  · go_enter Try.func10, Try.ntmps10
    go_wp2
    go_ret
    exact ⟨rfl, by go_grown⟩
  by_cases g2 : a1 < 1
  · go_enter Try.func10, Try.ntmps10
    go_wp2
    go_ret
    exact ⟨rfl, by go_grown⟩
  by_cases g3 : 16378 < a1
  · go_enter Try.func10, Try.ntmps10
    go_wp2
    go_ret
    exact ⟨rfl, by go_grown⟩
  by_cases g4 : a2 < 0
  · go_enter Try.func10, Try.ntmps10
    go_wp2
    go_ret
    exact ⟨rfl, by go_grown⟩
  by_cases g5 : 4096 < a2
  · go_enter Try.func10, Try.ntmps10
    go_wp2
    go_ret
    exact ⟨rfl, by go_grown⟩
  by_cases g6 : a3 < 0
  · go_enter Try.func10, Try.ntmps10
    go_wp2
    go_ret
    exact ⟨rfl, by go_grown⟩
  by_cases g7 : 4096 < a3
  · go_enter Try.func10, Try.ntmps10
    go_wp2
    go_ret
    exact ⟨rfl, by go_grown⟩
  by_cases g8 : a2 + a3 < 1
  · go_enter Try.func10, Try.ntmps10
    go_wp2
    go_ret
    exact ⟨rfl, by go_grown⟩
  obtain ⟨m, rfl⟩ := Int.eq_ofNat_of_zero_le (show 0 ≤ a2 by omega)
  obtain ⟨n, rfl⟩ := Int.eq_ofNat_of_zero_le (show 0 ≤ a3 by omega)
  exact main a0 a1 m n a4 w (by omega) (by omega) (by omega) (by omega) (by omega)
end Go.Proofs.Ytimfajlnlfaffaa.fnCallExprSpanLayout
