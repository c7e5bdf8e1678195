/- The walk of FnBraceExpSpanOnOneLine: the Go text returns true. Conditions: none. -/
import Derived.Test.YtimfajlnlfaffaaSpan
namespace Go.Proofs.Ytimfajlnlfaffaa.fnBraceExpSpanOnOneLine
open Go.RowKit
set_option linter.unusedVariables false

/-- the sum of the first k lengths, and the same with one separator behind each -/
def nth (zs : List Int) (k : Nat) : Int := zs.getD k 0
def tot (zs : List Int) : Nat → Int
  | 0 => 0
  | k + 1 => tot zs k + nth zs k
theorem tot_succ (zs : List Int) (k : Nat) : tot zs (k + 1) = tot zs k + nth zs k := rfl
def sep (zs : List Int) (k : Nat) : Int := tot zs k + k
theorem getD_in (zs : List Int) (h : ∀ n ∈ zs, (Lit.int .u8 n).wf = true) (k : Nat) : 0 ≤ nth zs k ∧ nth zs k ≤ 255 := by
  unfold nth
  by_cases hk : k < zs.length
  · have e : zs.getD k 0 = zs[k] := by simp [List.getD, hk]
    have := bounds_u8 (h _ (List.getElem_mem hk))
    rw [e]; exact this
  · simp [List.getD, hk]
theorem tot_in (zs : List Int) (h : ∀ n ∈ zs, (Lit.int .u8 n).wf = true) (k : Nat) : 0 ≤ tot zs k ∧ tot zs k ≤ 255 * k := by
  induction k with
  | zero => simp [tot]
  | succ k ih =>
    have := getD_in zs h k
    rw [tot_succ]
    omega
theorem tot_mono (zs : List Int) (h : ∀ n ∈ zs, (Lit.int .u8 n).wf = true) (k d : Nat) : tot zs k ≤ tot zs (k + d) := by
  induction d with
  | zero => exact Int.le_refl _
  | succ d ih =>
    have := getD_in zs h (k + d)
    rw [← Nat.add_assoc]
    rw [tot_succ]
    omega
def BRel (zs : List Int) (n g q : Nat) (w : World) (a1 a2 a3 : Int) (o c v i : Value) (wr : World) : Prop :=
  ∃ k xs, k ≤ n ∧ i = .int .i64 k ∧ o = .int .u64 (a1 + 1 + sep zs k) ∧ c = .int .u64 (a3 + 1 + sep zs k) ∧ v = .slice (some ⟨g, 0, none⟩) k n ∧
    wr.ownsRow w.heap.size 28 1 (.slice (some ⟨g, 0, none⟩) k n) k xs ∧ wr.ownsRow w.heap.size 5 1 (.slice (some ⟨q, 0, none⟩) n n) n ((zs.take n).map (Value.int .u8)) ∧ Below w.heap.size w wr ∧ g < wr.heap.size ∧
    (0 < k → ∃ b o2 l2, xs[0]? = some (.pointer (some ⟨b, 0, none⟩)) ∧ Span wr (g + 1) b (a1 + 1) (a2 * 16384 + (a3 + 1)) o2 l2) ∧
    (0 < k → ∃ b o1 l1, xs[k - 1]? = some (.pointer (some ⟨b, 0, none⟩)) ∧ Span wr (g + 1) b o1 l1 (a1 + sep zs k) (a2 * 16384 + (a3 + sep zs k)))
theorem cell_row {wr : World} {B q n : Nat} {zs : List Int} (h : wr.ownsRow B 5 1 (.slice (some ⟨q, 0, none⟩) n n) n ((zs.take n).map (Value.int .u8))) (k : Nat) (hk : k < n) (hz : n ≤ zs.length) : wr.cell? ⟨q, k, none⟩ = some (.int .u8 (nth zs k)) := by
  rw [h.cellAt k (by omega)]
  unfold nth
  simp [List.getD, hk, show k < zs.length by omega]
theorem infoW : (Try.prog.info? 28).map (fun i => (i.zero, i.size, i.bytes)) = some (some (.pointer none), 1, 8) := by kernel_rfl
theorem grown_of {w w' : World} (h : Below w.heap.size w w') (row : Option Nat) : w.grownBy w' row := ⟨h.1, h.2, h.3, h.4, fun k hk _ => h.5 k hk⟩

theorem one_new {w : World} {v : Value} {t : TypeId} : ∀ j u, [v][j]? = some u → (w.alloc (.cells #[v] t)).cell? ((⟨w.heap.size, 0, none⟩ : Addr).add j) = some u := by
  intro j u h
  cases j with
  | zero => simp at h; subst h; simp [Addr.add, go_sem]
  | succ j => simp at h
theorem lw_ex (o1 l1 o2 l2 : Int) (w : World) :
    Calls Try.prog 60 #[.agg #[.int .u32 o1, .int .u32 l1], .agg #[.int .u32 o2, .int .u32 l2]] w fun e w' => ∃ b, e = .returned (.pointer (some ⟨b, 0, none⟩)) ∧ Span w' w.heap.size b o1 l1 o2 l2 ∧ Below w.heap.size w w' :=
  (lw107_any o1 l1 o2 l2 w).mono fun _ _ ⟨h1, h2, h3⟩ => ⟨_, h1, h2, h3⟩
theorem offset_is (o lc : Int) (w : World) (h : 0 ≤ o ∧ o ≤ 4294967284) : Calls Try.prog 40 #[.agg #[.int .u32 o, .int .u32 lc]] w fun e w' => e = .returned (.int .u64 o) ∧ Below w.heap.size w w' :=
  (offset_any o lc w (by omega)).mono fun _ _ ⟨he, hb⟩ => ⟨by rw [he]; unfold offOf; rw [if_neg (by omega)], hb⟩
theorem line_is (o l c : Int) (w : World) (h : 0 ≤ l ∧ l ≤ 262143) (hc : 0 ≤ c ∧ c ≤ 16383) : Calls Try.prog 41 #[.agg #[.int .u32 o, .int .u32 (l * 16384 + c)]] w fun e w' => e = .returned (.int .u64 l) ∧ Below w.heap.size w w' :=
  (line_any o (l * 16384 + c) w (by omega)).mono fun _ _ ⟨he, hb⟩ => ⟨by rw [he]; exact ret_int (by unfold lineOf; omega), hb⟩
theorem col_is (o l c : Int) (w : World) (h : 0 ≤ l ∧ l ≤ 262143) (hc : 0 ≤ c ∧ c ≤ 16383) : Calls Try.prog 43 #[.agg #[.int .u32 o, .int .u32 (l * 16384 + c)]] w fun e w' => e = .returned (.int .u64 c) ∧ Below w.heap.size w w' :=
  (col_any o (l * 16384 + c) w (by omega)).mono fun _ _ ⟨he, hb⟩ => ⟨by rw [he]; exact ret_int (by unfold colOf; omega), hb⟩
theorem after_is (o lc o2 lc2 : Int) (b : Bool) (w : World) (ho : 0 ≤ o ∧ o ≤ 4294967284) (hl : 1 ≤ lc ∧ lc ≤ 4294967295) (h : b = decide (o2 < o)) : Calls Try.prog 42 #[.agg #[.int .u32 o, .int .u32 lc], .agg #[.int .u32 o2, .int .u32 lc2]] w fun e w' => e = .returned (.bool b) ∧ Below w.heap.size w w' :=
  (after_any o lc o2 lc2 w (by omega) (by omega)).mono fun _ _ ⟨he, hb⟩ => ⟨by
    have hv : validB o lc = true := by simp [validB]; omega
    rw [he, hv, h]; rfl, hb⟩
theorem addO_to (o lc n r : Int) (h1 : 0 ≤ o ∧ o ≤ 4294967284) (h2 : 1 ≤ lc) (hr : r = o + n) (h3 : 0 ≤ r ∧ r ≤ 4294967284) : addO o lc n = r :=
  (addO_is h1.2 (by simp; omega) (.inr (.inr ⟨by omega, by omega, hr⟩))).symm
theorem addLc_to (o l c n r : Int) (h1 : 0 ≤ o ∧ o ≤ 4294967284) (hl : 1 ≤ l) (h2 : 1 ≤ c ∧ c ≤ 16383) (hr : r = c + n) (h3 : 1 ≤ r ∧ r ≤ 16383) : addLc o (l * 16384 + c) n = l * 16384 + r :=
  (addLc_is h1.2 (by simp; omega) (.inr (.inr ⟨by omega, by omega, by omega, by omega⟩))).symm

set_option maxRecDepth 100000 in
set_option maxHeartbeats 4000000 in
theorem main (a0 : Bool) (a1 a2 a3 : Int) (x : Addr) (n cap : Nat) (zs : List Int) (w : World) (b1 : 0 ≤ a1 ∧ a1 ≤ 4294967295) (b2 : 1 ≤ a2 ∧ a2 ≤ 262143) (b3 : 1 ≤ a3 ∧ a3 ≤ 4294967295) (hn : 0 < n) (hn2 : n ≤ 4096) (hz : n ≤ zs.length)
    (hc : ∀ i, i < zs.length → w.cell? (x.add i) = some (.int .u8 (zs.getD i 0))) (hx : x.block < w.heap.size) (hw : ∀ m ∈ zs, (Lit.int .u8 m).wf = true) (hT : a3 + (2 + tot zs n + (n - 1)) ≤ 16383) (hO : a1 + (2 + tot zs n + (n - 1)) ≤ 4294967284) :
    Calls Try.prog 11 #[.bool a0, .int .u32 a1, .int .u32 a2, .int .u32 a3, .slice (some x) n cap] w fun e w' => e = .returned (.bool true) ∧ Below w.heap.size w w' := by
  have q0 : ((n : Int) == 0) = false := by simp; omega
  have q1 : (n == 0) = false := by simp; omega
  have HC := Lib.hid hc
  have HW := Lib.hid hw
  have ht := tot_in zs hw n
  clear hc hw
  obtain ⟨i0, hi, hz0, hz1, hz2⟩ := info_parts infoW
  have HI := Lib.hid (And.intro hi (And.intro hz1 hz2))
  have HZ := Lib.hid hz0
  clear hi hz0 hz1 hz2
  go_enter Try.func11, Try.ntmps11
  go_wp2_with (first | (go_at_call 57; go_in) | (go_at_call 58; refine (cl8_any x n cap zs _ hz (by omega) HC.out hx).mono ?_; rintro e w1 ⟨rfl, hq, hb⟩; have HQ := Lib.hid hq; clear hq))
  go_loop [11, 12] (fun s i => ∃ k : Nat, k ≤ n ∧ i = .int .i64 k ∧ s = .int .u64 (tot zs k)) (fun _ i => n - (intOf i).toNat)
  case atStart => exact ⟨0, Nat.zero_le _, rfl, rfl⟩
  case round =>
    obtain ⟨k, hk, rfl, rfl⟩ := hrel
    have t1 := tot_in zs HW.out k
    have t2 := getD_in zs HW.out k
    by_cases hlt : k < n
    · have c1 := cell_row HQ.out k hlt hz
      go_wp2
      go_round
      case rel => exact ⟨k + 1, by omega, by go_num, rfl⟩
      case measure => simp [intOf]; omega
    · obtain rfl : k = n := by omega
      have hz1 : w.heap.size < w1.heap.size := (HQ.out.lt w.heap.size rfl).2
      clear t1 t2 hlt
      go_wp2_with (first | (at_make; (refine wpList_make_own _ rfl _ _ 85 rfl w.heap.size 28 i0 (.pointer none) 1 Try.underlying85 HI.out.1 HZ.out HI.out.2.1 _ _ _ k rfl rfl rfl (by rw [HI.out.2.2]; omega) (by unfold maxLen; omega) (Nat.le_of_lt hz1) ?_); intro w2 hown hgrow))
      have hB2 : Below w.heap.size w w2 := hb.grown hgrow (Nat.le_of_lt hz1) (by simp)
      have hR : BRel zs k w1.heap.size w.heap.size w a1 a2 a3 (.int .u64 (a1 + 1)) (.int .u64 (a3 + 1)) (.slice (some ⟨w1.heap.size, 0, none⟩) 0 k) (.int .i64 0) w2 :=
        ⟨0, [], Nat.zero_le _, rfl, by simp [sep, tot], by simp [sep, tot], rfl, hown, HQ.out.kept hgrow (.inr (by simp [Value.ownBlock])), hB2, (hown.lt w1.heap.size rfl).2, fun h => absurd h (by omega), fun h => absurd h (by omega)⟩
      have HR := Lib.hid hR
      clear hR hown hgrow hB2 HQ
      go_loopw [15, 16, 17, 18] (fun o c v i wr => BRel zs k w1.heap.size w.heap.size w a1 a2 a3 o c v i wr) (fun _ _ _ i _ => k - (intOf i).toNat)
      case atStart => exact HR.out
      case round =>
        obtain ⟨j, xs, hj, rfl, rfl, rfl, rfl, hown, hq, hB, hgz, hF, hE⟩ := hrel
        have t1 := tot_in zs HW.out j
        have t2 := getD_in zs HW.out j
        by_cases hlt : j < k
        · have c1 := cell_row hq j hlt hz
          have t3 := tot_mono zs HW.out (j + 1) (k - (j + 1))
          rw [show j + 1 + (k - (j + 1)) = k by omega, tot_succ] at t3
          have e1 : sep zs j = tot zs j + j := rfl
          have e2 : sep zs (j + 1) = sep zs j + nth zs j + 1 := by unfold sep; rw [tot_succ]; omega
          have s1 : 0 ≤ sep zs j ∧ sep zs j + nth zs j + 1 ≤ tot zs k + k := by omega
          have E2 := Lib.hid e2
          clear e1 e2 t1 t3
          have hor1 := or_col a2 (a3 + 1 + sep zs j) (by omega) (by omega) (by omega) (by omega)
          have hor2 := or_col a2 (a3 + 1 + sep zs j + nth zs j) (by omega) (by omega) (by omega) (by omega)
          have HO := Lib.hid hown
          have HQ := Lib.hid hq
          have HF := Lib.hid hF
          have HE := Lib.hid hE
          clear hown hq hF hE
          go_wp2_with (first | (go_at_call 59; go_in))
          refine (lw_ex _ _ _ _ _).mono ?_
          rintro e w3 ⟨b, rfl, hS, hb3⟩
          have hB3 : Below wr.heap.size wr w3 := below_next (by go_grown) hb3
          have hS := hS.less (lo' := w1.heap.size + 1) (by simp; omega)
          have hown3 := HO.out.kept (grown_of hB3 none) (.inr (by simp [Value.ownBlock]))
          have hq3 := HQ.out.kept (grown_of hB3 none) (.inr (by simp [Value.ownBlock]))
          have HS := Lib.hid hS
          have HQ3 := Lib.hid hq3
          have H3 := Lib.hid hB3
          clear hb3 hB3 hq3 hS HQ HO c1 hor1 hor2
          go_wp2_with (first | (at_builtin; (refine wpList_append_fits _ rfl _ _ 85 rfl w.heap.size 28 i0 1 Try.underlying85 HI.out.1 HI.out.2.1 w1.heap.size j k xs rfl (hown3.alloc _) ⟨w3.heap.size, 0, none⟩ 1 1 [.pointer (some ⟨b, 0, none⟩)] rfl rfl one_new (by simp [Value.oneCell']) (by omega) ?_); intro w4 hown4 hg4))
          clear hown3
          have hW4 := Lib.hid hown4
          have HG4 := Lib.hid hg4
          clear hown4 hg4
          go_wp2
          go_roundw
          case rel =>
            have hal : ∀ o : Obj, Below w3.heap.size w3 (w3.alloc o) := fun o => (Below.refl _ _).alloc (Nat.le_refl _) _
            have hg4 := HG4.out
            have hB3 := H3.out
            have hlen : xs.length = j := by
              have := hW4.out.1
              simpa using this
            refine ⟨j + 1, xs ++ [.pointer (some ⟨b, 0, none⟩)], by omega, by go_num, congrArg (Value.int .u64) (by rw [E2.out]; omega), congrArg (Value.int .u64) (by rw [E2.out]; omega), rfl, hW4.out, (HQ3.out.alloc _).kept hg4 (.inr (by simp [Value.ownBlock]; omega)), ?_, ?_, ?_, ?_⟩
            · exact ((below_next hB hB3).alloc (by have := hB.size; have := hB3.size; omega) _).grown hg4 (by have := hB.size; have := hB3.size; simp; omega) (by intro g hg; injection hg; omega)
            · have := hg4.size; have := hB3.size; simp at *; omega
            · intro _
              by_cases hj0 : j = 0
              · subst hj0
                have hx0 : xs = [] := List.eq_nil_of_length_eq_zero hlen
                subst hx0
                have hsp := (HS.out.below (hal _)).grown hg4 (Nat.lt_succ_self _)
                have z0 : sep zs 0 = 0 := rfl
                rw [z0, Int.add_zero, Int.add_zero] at hsp
                exact ⟨b, _, _, rfl, hsp⟩
              · obtain ⟨b', o2, l2, h1, h2⟩ := HF.out (by omega)
                exact ⟨b', o2, l2, by rw [List.getElem?_append_left (by omega)]; exact h1, ((h2.below hB3).below (hal _)).grown hg4 (Nat.lt_succ_self _)⟩
            · intro _
              have hsp := (HS.out.below (hal _)).grown hg4 (Nat.lt_succ_self _)
              have r1 : a1 + sep zs (j + 1) = a1 + 1 + sep zs j + nth zs j := by rw [E2.out]; omega
              have r2 : a2 * 16384 + (a3 + sep zs (j + 1)) = a2 * 16384 + (a3 + 1 + sep zs j + nth zs j) := by rw [E2.out]; omega
              rw [r1, r2]
              exact ⟨b, _, _, by rw [Nat.add_sub_cancel, List.getElem?_append_right (by omega), hlen, Nat.sub_self]; rfl, hsp⟩
          case measure => simp [intOf]; omega
        · obtain rfl : j = k := by omega
          have e1 : sep zs j = tot zs j + j := rfl
          obtain ⟨bF, o2, l2, x1, S1⟩ := hF hn
          obtain ⟨bE, o1, l1, x2, S2⟩ := hE hn
          rw [e1] at S2
          have gF : wr.cell? ⟨w1.heap.size, 0, none⟩ = some (.pointer (some ⟨bF, 0, none⟩)) := by rw [hown.cellAt 0 (by omega)]; exact x1
          have gE : wr.cell? ⟨w1.heap.size, j - 1, none⟩ = some (.pointer (some ⟨bE, 0, none⟩)) := by rw [hown.cellAt (j - 1) (by omega)]; exact x2
          have P1 := Lib.hid S1.pos
          have P2 := Lib.hid S2.end_
          have GE := Lib.hid gE
          have GF := Lib.hid gF
          clear hF hE hown hq x1 x2 S1 S2 t1 t2 e1 gE gF
          have hlt1 : ¬ j < j := by omega
          go_wp2_with fail
          have hal : Below wr.heap.size wr (wr.alloc (.cells #[.bool a0, .slice (some ⟨w1.heap.size, 0, none⟩) j j] 98)) := by go_grown
          refine (bp_any wr.heap.size w1.heap.size bF j j (a1 + 1) (a2 * 16384 + (a3 + 1)) _ (by omega) (by omega) hn ?_ (cell_alloc GF.out) (P1.out.grow (by go_grown))).mono ?_
          · simp [go_sem]
          rintro e w5 ⟨rfl, hb5⟩
          rw [addO_to (a1 + 1) _ (-1) a1 (by omega) (by omega) (by omega) (by omega), addLc_to (a1 + 1) a2 (a3 + 1) (-1) a3 (by omega) (by omega) (by omega) (by omega) (by omega)]
          have hW5 : Below wr.heap.size wr w5 := below_next hal hb5
          have x5 : w5.cell? ⟨wr.heap.size, 1, none⟩ = some (.slice (some ⟨w1.heap.size, 0, none⟩) j j) := cell_below hb5 (by simp [go_sem])
          have hB5 : Below w.heap.size w w5 := below_next hB hW5
          have X5 := Lib.hid x5
          have H5 := Lib.hid hW5
          have P3 := Lib.hid (P2.out.grow hW5)
          have G3 := Lib.hid (cell_below hW5 GE.out)
          clear x5 hW5 hb5 hal P1 P2 GE GF
          go_wp2_with fail
          refine (be_any wr.heap.size w1.heap.size bE j j (a1 + (tot zs j + j)) (a2 * 16384 + (a3 + (tot zs j + j))) _ (by omega) (by omega) hn (by omega) (cell_alloc X5.out) (cell_alloc G3.out) (P3.out.grow (by go_grown))).mono ?_
          rintro e w6 ⟨rfl, hb6⟩
          rw [addO_to (a1 + (tot zs j + j)) _ 1 (a1 + (2 + tot zs j + (↑j - 1))) (by omega) (by omega) (by omega) (by omega), addLc_to (a1 + (tot zs j + j)) a2 (a3 + (tot zs j + j)) 1 (a3 + (2 + tot zs j + (↑j - 1))) (by omega) (by omega) (by omega) (by omega) (by omega)]
          clear P3 G3 X5 H5
          have hE0 : 0 ≤ a1 + (2 + tot zs j + (↑j - 1)) := by omega
          have hD1 : true = decide (a1 < a1 + (2 + tot zs j + (↑j - 1))) := by simp; omega
          have hD2 : false = decide (a1 + (2 + tot zs j + (↑j - 1)) < a1) := by simp; omega
          have HD1 := Lib.hid hD1
          have HD2 := Lib.hid hD2
          clear hD1 hD2
          have hz5 := hB5.size
          obtain ⟨S, hS, hSn, hSB, hSc⟩ := cells_after w _ _ hb6 [(⟨w5.heap.size, 0, none⟩, .int .u32 a1), (⟨w5.heap.size, 1, none⟩, .int .u32 (a2 * 16384 + a3))] (by go_grown) (by simp [go_sem])
          have HC := Lib.hid (show ∀ W, S W → W.cell? ⟨w5.heap.size, 0, none⟩ = some (.int .u32 a1) ∧ W.cell? ⟨w5.heap.size, 1, none⟩ = some (.int .u32 (a2 * 16384 + a3)) ∧ w5.heap.size < W.heap.size from fun W h => ⟨(hSc W h (⟨w5.heap.size, 0, none⟩, .int .u32 a1) (by simp)).1, (hSc W h (⟨w5.heap.size, 1, none⟩, .int .u32 (a2 * 16384 + a3)) (by simp)).1, (hSc W h (⟨w5.heap.size, 0, none⟩, .int .u32 a1) (by simp)).2⟩)
          have HN := Lib.hid hSn
          have HB := Lib.hid hSB
          clear hSn hSB hSc hb6 
          obtain ⟨c0, c1, z0⟩ := HC.out _ hS
          go_wp2_with fail
          refine (offset_is _ _ _ (by omega)).mono ?_
          rintro e w7 ⟨rfl, hb7⟩
          have hBw := HB.out _ hS
          clear HC HN HB
          obtain ⟨S, hS, hSn, hSB, hSc⟩ := cells_after w _ _ hb7 [(⟨w5.heap.size, 0, none⟩, .int .u32 a1), (⟨w5.heap.size, 1, none⟩, .int .u32 (a2 * 16384 + a3)), (⟨w6.heap.size, 0, none⟩, .int .u32 (a1 + (2 + tot zs j + (↑j - 1)))), (⟨w6.heap.size, 1, none⟩, .int .u32 (a2 * 16384 + (a3 + (2 + tot zs j + (↑j - 1)))))] (by go_grown) (by intro p hp; simp only [List.mem_cons, List.not_mem_nil, or_false] at hp; rcases hp with rfl | rfl | rfl | rfl <;> exact ⟨by first | assumption | (simp [go_sem]; done) | (refine cell_alloc ?_; assumption) | (refine cell_alloc (cell_alloc ?_); assumption) | (refine cell_alloc (cell_alloc (cell_alloc ?_)); assumption), by first | (simp; omega) | (simp; done)⟩)
          have HC := Lib.hid (show ∀ W, S W → W.cell? ⟨w5.heap.size, 0, none⟩ = some (.int .u32 a1) ∧ W.cell? ⟨w5.heap.size, 1, none⟩ = some (.int .u32 (a2 * 16384 + a3)) ∧ W.cell? ⟨w6.heap.size, 0, none⟩ = some (.int .u32 (a1 + (2 + tot zs j + (↑j - 1)))) ∧ W.cell? ⟨w6.heap.size, 1, none⟩ = some (.int .u32 (a2 * 16384 + (a3 + (2 + tot zs j + (↑j - 1))))) ∧ w5.heap.size < W.heap.size ∧ w6.heap.size < W.heap.size from fun W h => ⟨(hSc W h (⟨w5.heap.size, 0, none⟩, .int .u32 a1) (by simp)).1, (hSc W h (⟨w5.heap.size, 1, none⟩, .int .u32 (a2 * 16384 + a3)) (by simp)).1, (hSc W h (⟨w6.heap.size, 0, none⟩, .int .u32 (a1 + (2 + tot zs j + (↑j - 1)))) (by simp)).1, (hSc W h (⟨w6.heap.size, 1, none⟩, .int .u32 (a2 * 16384 + (a3 + (2 + tot zs j + (↑j - 1))))) (by simp)).1, (hSc W h (⟨w5.heap.size, 0, none⟩, .int .u32 a1) (by simp)).2, (hSc W h (⟨w6.heap.size, 0, none⟩, .int .u32 (a1 + (2 + tot zs j + (↑j - 1)))) (by simp)).2⟩)
          have HN := Lib.hid hSn
          have HB := Lib.hid hSB
          clear hSn hSB hSc hb7 c0 c1 z0
          obtain ⟨c0, c1, c2, c3, z0, z1⟩ := HC.out _ hS
          go_wp2_with fail
          refine (line_is _ _ _ _ (by omega) (by omega)).mono ?_
          rintro e wN ⟨rfl, hbN⟩
          have hS := HN.out _ _ hS hbN
          clear hbN c0 c1 c2 c3 z0 z1
          obtain ⟨c0, c1, c2, c3, z0, z1⟩ := HC.out _ hS
          go_wp2_with fail
          refine (col_is _ _ _ _ (by omega) (by omega)).mono ?_
          rintro e wN ⟨rfl, hbN⟩
          have hS := HN.out _ _ hS hbN
          clear hbN c0 c1 c2 c3 z0 z1
          obtain ⟨c0, c1, c2, c3, z0, z1⟩ := HC.out _ hS
          go_wp2_with fail
          refine (offset_is _ _ _ (by omega)).mono ?_
          rintro e wN ⟨rfl, hbN⟩
          have hS := HN.out _ _ hS hbN
          clear hbN c0 c1 c2 c3 z0 z1
          obtain ⟨c0, c1, c2, c3, z0, z1⟩ := HC.out _ hS
          go_wp2_with fail
          refine (line_is _ _ _ _ (by omega) (by omega)).mono ?_
          rintro e wN ⟨rfl, hbN⟩
          have hS := HN.out _ _ hS hbN
          clear hbN c0 c1 c2 c3 z0 z1
          obtain ⟨c0, c1, c2, c3, z0, z1⟩ := HC.out _ hS
          go_wp2_with fail
          refine (col_is _ _ _ _ (by omega) (by omega)).mono ?_
          rintro e wN ⟨rfl, hbN⟩
          have hS := HN.out _ _ hS hbN
          clear hbN c0 c1 c2 c3 z0 z1
          obtain ⟨c0, c1, c2, c3, z0, z1⟩ := HC.out _ hS
          go_wp2_with fail
          refine (after_is _ _ _ _ true _ (by omega) (by omega) HD1.out).mono ?_
          rintro e wN ⟨rfl, hbN⟩
          have hS := HN.out _ _ hS hbN
          clear hbN c0 c1 c2 c3 z0 z1
          obtain ⟨c0, c1, c2, c3, z0, z1⟩ := HC.out _ hS
          go_wp2_with fail
          refine (after_is _ _ _ _ false _ (by omega) (by omega) HD2.out).mono ?_
          rintro e wN ⟨rfl, hbN⟩
          have hS := HN.out _ _ hS hbN
          clear hbN c0 c1 c2 c3 z0 z1
          obtain ⟨c0, c1, c2, c3, z0, z1⟩ := HC.out _ hS
          go_wp2_with fail
          go_ret
          exact ⟨rfl, HB.out _ hS⟩

set_option maxRecDepth 100000 in
set_option maxHeartbeats 1000000 in
theorem x1 (a0 : Bool) (a1 a2 a3 : Int) (a : Option Addr) (n cap : Nat) (w : World) (h : 1048576 < n) :
    Calls Try.prog 11 #[.bool a0, .int .u32 a1, .int .u32 a2, .int .u32 a3, .slice a n cap] w fun e w' => e = .returned (.bool true) ∧ Below w.heap.size w w' := by
  go_enter Try.func11, Try.ntmps11
  go_wp2_with (first | (go_at_call 57; go_in))
  go_ret
  exact ⟨rfl, by go_grown⟩
set_option maxRecDepth 100000 in
set_option maxHeartbeats 1000000 in
theorem x2 (a0 : Bool) (a1 a2 a3 : Int) (a : Option Addr) (n cap : Nat) (w : World) (h0 : n ≤ 1048576) (h : 4096 < n) :
    Calls Try.prog 11 #[.bool a0, .int .u32 a1, .int .u32 a2, .int .u32 a3, .slice a n cap] w fun e w' => e = .returned (.bool true) ∧ Below w.heap.size w w' := by
  go_enter Try.func11, Try.ntmps11
  go_wp2_with (first | (go_at_call 57; go_in))
  go_ret
  exact ⟨rfl, by go_grown⟩
set_option maxRecDepth 100000 in
set_option maxHeartbeats 1000000 in
theorem x3 (a0 : Bool) (a1 a2 a3 : Int) (a : Option Addr) (n cap : Nat) (w : World) (h : n = 0) :
    Calls Try.prog 11 #[.bool a0, .int .u32 a1, .int .u32 a2, .int .u32 a3, .slice a n cap] w fun e w' => e = .returned (.bool true) ∧ Below w.heap.size w w' := by
  subst h
  go_enter Try.func11, Try.ntmps11
  go_wp2_with (first | (go_at_call 57; go_in))
  go_ret
  exact ⟨rfl, by go_grown⟩
set_option maxRecDepth 100000 in
set_option maxHeartbeats 1000000 in
theorem x4 (a0 : Bool) (a1 a2 a3 : Int) (a : Option Addr) (n cap : Nat) (w : World) (h0 : n ≤ 4096) (hn : (n == 0) = false) (hn1 : ((n : Int) == 0) = false) (h : a2 < 1) :
    Calls Try.prog 11 #[.bool a0, .int .u32 a1, .int .u32 a2, .int .u32 a3, .slice a n cap] w fun e w' => e = .returned (.bool true) ∧ Below w.heap.size w w' := by
  go_enter Try.func11, Try.ntmps11
  go_wp2_with (first | (go_at_call 57; go_in))
  go_ret
  exact ⟨rfl, by go_grown⟩
set_option maxRecDepth 100000 in
set_option maxHeartbeats 1000000 in
theorem x5 (a0 : Bool) (a1 a2 a3 : Int) (a : Option Addr) (n cap : Nat) (w : World) (h0 : n ≤ 4096) (hn : (n == 0) = false) (hn1 : ((n : Int) == 0) = false) (h1 : ¬ a2 < 1) (h : 262143 < a2) :
    Calls Try.prog 11 #[.bool a0, .int .u32 a1, .int .u32 a2, .int .u32 a3, .slice a n cap] w fun e w' => e = .returned (.bool true) ∧ Below w.heap.size w w' := by
  go_enter Try.func11, Try.ntmps11
  go_wp2_with (first | (go_at_call 57; go_in))
  go_ret
  exact ⟨rfl, by go_grown⟩
set_option maxRecDepth 100000 in
set_option maxHeartbeats 1000000 in
theorem x6 (a0 : Bool) (a1 a2 a3 : Int) (a : Option Addr) (n cap : Nat) (w : World) (h0 : n ≤ 4096) (hn : (n == 0) = false) (hn1 : ((n : Int) == 0) = false) (h1 : ¬ a2 < 1) (h2 : ¬ 262143 < a2) (h : a3 < 1) :
    Calls Try.prog 11 #[.bool a0, .int .u32 a1, .int .u32 a2, .int .u32 a3, .slice a n cap] w fun e w' => e = .returned (.bool true) ∧ Below w.heap.size w w' := by
  go_enter Try.func11, Try.ntmps11
  go_wp2_with (first | (go_at_call 57; go_in))
  go_ret
  exact ⟨rfl, by go_grown⟩
set_option maxRecDepth 100000 in
set_option maxHeartbeats 4000000 in
theorem mid (a0 : Bool) (a1 a2 a3 : Int) (x : Addr) (n cap : Nat) (zs : List Int) (w : World) (b1 : 0 ≤ a1 ∧ a1 ≤ 4294967295) (b2 : 1 ≤ a2 ∧ a2 ≤ 262143) (b3 : 1 ≤ a3 ∧ a3 ≤ 4294967295) (hn : 0 < n) (hn2 : n ≤ 4096) (hz : n ≤ zs.length)
    (hc : ∀ i, i < zs.length → w.cell? (x.add i) = some (.int .u8 (zs.getD i 0))) (hx : x.block < w.heap.size) (hw : ∀ m ∈ zs, (Lit.int .u8 m).wf = true) (hT : 16383 < a3 + (2 + tot zs n + (n - 1)) ∨ (a3 + (2 + tot zs n + (n - 1)) ≤ 16383 ∧ 4294967284 < a1 + (2 + tot zs n + (n - 1)))) :
    Calls Try.prog 11 #[.bool a0, .int .u32 a1, .int .u32 a2, .int .u32 a3, .slice (some x) n cap] w fun e w' => e = .returned (.bool true) ∧ Below w.heap.size w w' := by
  have q0 : ((n : Int) == 0) = false := by simp; omega
  have q1 : (n == 0) = false := by simp; omega
  have HC := Lib.hid hc
  have HW := Lib.hid hw
  have HT := Lib.hid hT
  have ht := tot_in zs hw n
  clear hc hw hT
  go_enter Try.func11, Try.ntmps11
  go_wp2_with (first | (go_at_call 57; go_in) | (go_at_call 58; refine (cl8_any x n cap zs _ hz (by omega) HC.out hx).mono ?_; rintro e w1 ⟨rfl, hq, hb⟩; have HQ := Lib.hid hq; clear hq))
  go_loop [11, 12] (fun s i => ∃ k : Nat, k ≤ n ∧ i = .int .i64 k ∧ s = .int .u64 (tot zs k)) (fun _ i => n - (intOf i).toNat)
  case atStart => exact ⟨0, Nat.zero_le _, rfl, rfl⟩
  case round =>
    obtain ⟨k, hk, rfl, rfl⟩ := hrel
    have t1 := tot_in zs HW.out k
    have t2 := getD_in zs HW.out k
    by_cases hlt : k < n
    · have c1 := cell_row HQ.out k hlt hz
      go_wp2
      go_round
      case rel => exact ⟨k + 1, by omega, by go_num, rfl⟩
      case measure => simp [intOf]; omega
    · obtain rfl : k = n := by omega
      rcases HT.out with h | ⟨h1, h⟩
      all_goals
        clear HT
        go_wp2_with fail
        go_ret
        exact ⟨rfl, hb⟩
theorem lt_of_cell {w : World} {x : Addr} {v : Value} (h : w.cell? (x.add 0) = some v) : x.block < w.heap.size := by
  have := World.block_lt_of_cell? w _ h
  rwa [block_of_add] at this

theorem walk (a0 : Bool) (a1 : Int) (a2 : Int) (a3 : Int) (a4 : Option Addr) (len4 cap4 : Nat) (z4 : List Int) (w : World) (w1 : (Lit.int .u32 a1).wf = true) (w2 : (Lit.int .u32 a2).wf = true) (w3 : (Lit.int .u32 a3).wf = true) (w4 : IsRow .u8 w a4 len4 cap4 z4) :
    Calls Try.prog 11 #[.bool a0, .int .u32 a1, .int .u32 a2, .int .u32 a3, .slice a4 len4 cap4] w fun e w' => e = .returned (.bool true) ∧ Below w.heap.size w w' := by
  have b1 := bounds_u32 w1
  have b2 := bounds_u32 w2
  have b3 := bounds_u32 w3
  clear w1 w2 w3
  by_cases k1 : 1048576 < len4
  · exact x1 a0 a1 a2 a3 a4 len4 cap4 w k1
  by_cases k2 : 4096 < len4
  · exact x2 a0 a1 a2 a3 a4 len4 cap4 w (by omega) k2
  by_cases k3 : len4 = 0
  · exact x3 a0 a1 a2 a3 a4 len4 cap4 w k3
  have n1 : (len4 == 0) = false := by simp [k3]
  have n2 : ((len4 : Int) == 0) = false := by simp; omega
  by_cases k4 : a2 < 1
  · exact x4 a0 a1 a2 a3 a4 len4 cap4 w (by omega) n1 n2 k4
  by_cases k5 : 262143 < a2
  · exact x5 a0 a1 a2 a3 a4 len4 cap4 w (by omega) n1 n2 k4 k5
  by_cases k6 : a3 < 1
  · exact x6 a0 a1 a2 a3 a4 len4 cap4 w (by omega) n1 n2 k4 k5 k6
  rcases w4 with ⟨_, h0, _, _⟩ | ⟨x, rfl, hl, hm, hz, hc, hw⟩
  · exact absurd h0 k3
  have hx : x.block < w.heap.size := lt_of_cell (hc 0 (by omega))
  by_cases k7 : 16383 < a3 + (2 + tot z4 len4 + (len4 - 1))
  · exact mid a0 a1 a2 a3 x len4 cap4 z4 w b1 (by omega) (by omega) (by omega) (by omega) (by omega) hc hx hw (.inl k7)
  by_cases k8 : 4294967284 < a1 + (2 + tot z4 len4 + (len4 - 1))
  · exact mid a0 a1 a2 a3 x len4 cap4 z4 w b1 (by omega) (by omega) (by omega) (by omega) (by omega) hc hx hw (.inr ⟨by omega, k8⟩)
  exact main a0 a1 a2 a3 x len4 cap4 z4 w b1 (by omega) (by omega) (by omega) (by omega) (by omega) hc hx hw (by omega) (by omega)
end Go.Proofs.Ytimfajlnlfaffaa.fnBraceExpSpanOnOneLine
