/- The walk of FnPosStringParsesBack: the Go text returns true. Conditions: the listed variables hold what the program's text lays. -/
import Derived.Test.YtophjoaadkdhhaaDoorRows
import Derived.Test.YtophjoaadkdhhaaDoorPs
import Derived.Test.YtophjoaadkdhhaaDoorPf
import Derived.OpenShut
import Derived.LaidMore
import Derived.LaidLaws
import Derived.Outline
namespace Go.Proofs.YtophjoaadkdhhaaDoor.fnPosStringParsesBack
open Go.RowKit Go.ChangeShapes Go.WideShapes
set_option linter.unusedVariables false

set_option maxRecDepth 100000 in
theorem tab_of_laid {W : World} (h : laidMetH Tryd.prog Rows.fnPosStringParsesBackRow.laid W) : Lib.TabIs Tryd.prog W "internal/strconv.uint64pow10" .u64 Lib.pow10Tab := by
  rw [MakeChecks.laidMetH_plain _ _ _ (by kernel_rfl)] at h
  obtain ⟨ps, ⟨g0, t0, cs0, f0, p0, q0, hg0, ht0, hv0, hd0, ⟨g1, t1, cs1, f1, p1, q1, hg1, ht1, hv1, hd1, ⟨g2, t2, cs2, f2, p2, q2, hg2, ht2, hv2, hd2, _, _⟩, _⟩, _⟩, _, _⟩ := h
  obtain rfl : g2 = 0 := Option.some.inj (hg2.symm.trans (by kernel_rfl))
  obtain rfl : t2 = 54 := Option.some.inj (ht2.symm.trans (by kernel_rfl))
  unfold Lib.TabIs
  rw [hv2, ← Lib.cells_of_tab (k := .u64) (zs := Lib.pow10Tab) (e := 41) (n := 20) Tryd.underlying54 Tryd.underlying41 (by kernel_rfl) (by kernel_rfl) hd2]

/-- where the colon lies -/
theorem pos_at_colon (L C : Nat) (s : ByteArray) (hs : s = ⟨(posL L C).toArray⟩) : s.size = (fieldB L).length + 1 + (fieldB C).length ∧ ∀ k (h : k < s.size), (((s[k].toNat : Int) == 58) = decide (k = (fieldB L).length)) := by
  subst hs
  refine ⟨by rw [ba_size]; simp [posL]; omega, fun k hk => ?_⟩
  have hl : k < (posL L C).length := by rw [ba_size] at hk; exact hk
  rw [ba_at _ k hk hl]
  simp only [posL]
  rcases Nat.lt_trichotomy k (fieldB L).length with h | h | h
  · rw [List.getElem_append_left h]
    have := field_colon L _ (List.getElem_mem h)
    rw [beq_eq_false_iff_ne.2 (by omega), decide_eq_false (by omega)]
  · subst h
    simp
  · rw [List.getElem_append_right (by omega)]
    obtain ⟨j, hj⟩ : ∃ j, k - (fieldB L).length = j + 1 := ⟨k - (fieldB L).length - 1, by omega⟩
    have hjl : j < (fieldB C).length := by simp [posL] at hl; omega
    have e : (58 :: fieldB C)[k - (fieldB L).length]'(by simp; omega) = (fieldB C)[j] := by simp only [hj, List.getElem_cons_succ]
    rw [e]
    have := field_colon C _ (List.getElem_mem hjl)
    rw [beq_eq_false_iff_ne.2 (by omega), decide_eq_false (by omega)]
theorem cut_left (L C : Nat) (s : ByteArray) (hs : s = ⟨(posL L C).toArray⟩) : s.extract 0 (fieldB L).length = ⟨(fieldB L).toArray⟩ := by
  subst hs
  apply ByteArray.ext
  simp [posL]
theorem cut_right (L C : Nat) (s : ByteArray) (hs : s = ⟨(posL L C).toArray⟩) : s.extract ((fieldB L).length + 1) s.size = ⟨(fieldB C).toArray⟩ := by
  subst hs
  apply ByteArray.ext
  simp [posL, ba_size]
  rw [List.take_of_length_le (by omega)]
set_option maxHeartbeats 1000000 in
theorem walk (a0 a1 a2 : Int) (w : World) (w0 : (Lit.int .u64 a0).wf = true) (w1 : (Lit.int .u64 a1).wf = true) (w2 : (Lit.int .u64 a2).wf = true) (hL : laidMetH Tryd.prog Rows.fnPosStringParsesBackRow.laid w) :
    Calls Tryd.prog 3 #[.int .u64 a0, .int .u64 a1, .int .u64 a2] w fun e w' => e = .returned (.bool true) ∧ Below w.heap.size w w' := by
  have b0 := bounds_u64 w0
  have b1 := bounds_u64 w1
  have b2 := bounds_u64 w2
  have hT := tab_of_laid hL
  clear w0 w1 w2 hL
  go_enter Tryd.func3, Tryd.ntmps3
  go_wp2_with fail
  refine (newPos_any _ _ _ _ b0 b1 b2).mono ?_
  rintro e w1 ⟨rfl, hb1⟩
  have hB1 : Below w.heap.size w w1 := below_next (by go_grown) hb1
  have hT1 := tab_below hT hB1
  clear hb1
  have hlc := lcOf_in a1 a2 b1.1 b2.1
  go_wp2_with fail
  refine (pstr_any _ _ _ hlc (Lib.tabIs_alloc hT1 _)).mono ?_
  rintro e w2 ⟨rfl, hb2⟩
  obtain ⟨m0, m1, -, -, -⟩ := slot_after hb2
  have hz2 : w1.heap.size < w2.heap.size := by have := hb2.size; simp at this; omega
  have hB2 : Below w.heap.size w w2 := below_next (hB1.trans (by have := hB1.size; exact (Below.refl _ _).alloc this _)) hb2
  clear hb2
  obtain ⟨u, hu⟩ : ∃ u : Nat, lineOf (lcOf a1 a2) = u := ⟨(lineOf (lcOf a1 a2)).toNat, by unfold lineOf; omega⟩
  obtain ⟨v, hv⟩ : ∃ v : Nat, colOf (lcOf a1 a2) = v := ⟨(colOf (lcOf a1 a2)).toNat, by unfold colOf; omega⟩
  have hu1 : u < 262144 := by have : lineOf (lcOf a1 a2) ≤ 262143 := by unfold lineOf; omega
                              omega
  have hv1 : v < 262144 := by have : colOf (lcOf a1 a2) ≤ 16383 := by unfold colOf; omega
                              omega
  have eu : (lineOf (lcOf a1 a2)).toNat = u := by omega
  have ev : (colOf (lcOf a1 a2)).toNat = v := by omega
  rw [eu, ev]
  obtain ⟨s, es⟩ : ∃ s : ByteArray, s = ⟨(posL u v).toArray⟩ := ⟨_, rfl⟩
  rw [← es]
  obtain ⟨hsz, hcol⟩ := pos_at_colon _ _ s es
  have cl := cut_left _ _ s es
  have cr := cut_right _ _ s es
  have l1 := field_len u hu1
  have l2 := field_len v hv1
  obtain ⟨F, eF⟩ : ∃ F, (fieldB u).length = F := ⟨_, rfl⟩
  obtain ⟨G, eG⟩ : ∃ G, (fieldB v).length = G := ⟨_, rfl⟩
  simp only [eF] at hsz hcol cl cr l1
  simp only [eG] at hsz l2
  have HS := Lib.hid es
  have HZ := Lib.hid hsz
  have HC := Lib.hid hcol
  have HL := Lib.hid cl
  have HR := Lib.hid cr
  have hs13 : s.size ≤ 13 := by omega
  have HU := Lib.hid (And.intro hu eu)
  have HV := Lib.hid (And.intro hv ev)
  clear hu hv eu ev es hsz hcol cl cr eF eG
  go_wp2_with fail
  go_loopw [9, 10, 11] (fun co cn i wr => ∃ k : Nat, ∃ x y : Int, k ≤ s.size ∧ i = .int .i64 k ∧ co = .int .i64 x ∧ cn = .int .i64 y ∧ Hid ((k ≤ F → x = -1 ∧ y = 0) ∧ (F < k → x = F ∧ y = 1)) ∧ Below w2.heap.size w2 wr) (fun _ _ i _ => s.size - (intOf i).toNat)
  case atStart => exact ⟨0, -1, 0, Nat.zero_le _, rfl, rfl, rfl, Lib.hid ⟨fun _ => ⟨rfl, rfl⟩, fun h => absurd h (by omega)⟩, by go_grown⟩
  case round =>
    obtain ⟨k, x, y, hk, rfl, rfl, rfl, HX, hbel⟩ := hrel
    by_cases hlt : k < s.size
    · have hc := HC.out k hlt
      by_cases hF : k = F
      · have hcc : ((s[k].toNat : Int) == 58) = true := by rw [hc]; exact decide_eq_true hF
        obtain ⟨rfl, rfl⟩ := HX.out.1 (by omega)
        clear HX hc
        subst hF
        go_wp2
        go_roundw
        case rel => exact ⟨k + 1, k, 1, by omega, by go_num, by go_num, rfl, Lib.hid ⟨fun h => absurd h (by omega), fun h => ⟨rfl, rfl⟩⟩, hbel⟩
        case measure => simp [intOf]; omega
      · have hcc : ((s[k].toNat : Int) == 58) = false := by rw [hc]; exact decide_eq_false hF
        clear hc
        go_wp2
        go_roundw
        case rel => exact ⟨k + 1, x, y, by omega, by go_num, rfl, rfl, Lib.hid ⟨fun h => HX.out.1 (by omega), fun h => HX.out.2 (by omega)⟩, hbel⟩
        case measure => simp [intOf]; omega
    · obtain rfl : k = s.size := by omega
      have hFs : F < s.size := by have := HZ.out; omega
      obtain ⟨rfl, rfl⟩ := HX.out.2 hFs
      have hB3 : Below w.heap.size w wr := below_next hB2 hbel
      have m0 : wr.cell? ⟨w1.heap.size, 0, none⟩ = some (.int .u32 (offCap a0)) := by rw [hbel.cell (p := ⟨w1.heap.size, 0, none⟩) hz2]; exact m0
      have m1 : wr.cell? ⟨w1.heap.size, 1, none⟩ = some (.int .u32 (lcOf a1 a2)) := by rw [hbel.cell (p := ⟨w1.heap.size, 1, none⟩) hz2]; exact m1
      have hz3 : w1.heap.size < wr.heap.size := Nat.lt_of_lt_of_le hz2 hbel.size
      clear hbel HX
      go_wp2_with fail
      rw [HL.out]
      refine (pf_field u hu1 _).mono ?_
      rintro e w4 ⟨rfl, hb4⟩
      have hB4 := below_next hB3 hb4
      have m0 : w4.cell? ⟨w1.heap.size, 0, none⟩ = some (.int .u32 (offCap a0)) := by rw [hb4.cell (p := ⟨w1.heap.size, 0, none⟩) hz3]; exact m0
      have m1 : w4.cell? ⟨w1.heap.size, 1, none⟩ = some (.int .u32 (lcOf a1 a2)) := by rw [hb4.cell (p := ⟨w1.heap.size, 1, none⟩) hz3]; exact m1
      have hz4 : w1.heap.size < w4.heap.size := Nat.lt_of_lt_of_le hz3 hb4.size
      clear hb4
      go_wp2_with fail
      rw [HR.out]
      refine (pf_field v hv1 _).mono ?_
      rintro e w5 ⟨rfl, hb5⟩
      have hB5 := below_next hB4 hb5
      have m0 : w5.cell? ⟨w1.heap.size, 0, none⟩ = some (.int .u32 (offCap a0)) := by rw [hb5.cell (p := ⟨w1.heap.size, 0, none⟩) hz4]; exact m0
      have m1 : w5.cell? ⟨w1.heap.size, 1, none⟩ = some (.int .u32 (lcOf a1 a2)) := by rw [hb5.cell (p := ⟨w1.heap.size, 1, none⟩) hz4]; exact m1
      have hz5 : w1.heap.size < w5.heap.size := Nat.lt_of_lt_of_le hz4 hb5.size
      clear hb5
      go_wp2_with fail
      refine (line_any _ _ _ hlc).mono ?_
      rintro e w6 ⟨rfl, hb6⟩
      rw [HU.out.1]
      have hB6 := below_next hB5 hb6
      have m0 : w6.cell? ⟨w1.heap.size, 0, none⟩ = some (.int .u32 (offCap a0)) := by rw [hb6.cell (p := ⟨w1.heap.size, 0, none⟩) hz5]; exact m0
      have m1 : w6.cell? ⟨w1.heap.size, 1, none⟩ = some (.int .u32 (lcOf a1 a2)) := by rw [hb6.cell (p := ⟨w1.heap.size, 1, none⟩) hz5]; exact m1
      have hz6 : w1.heap.size < w6.heap.size := Nat.lt_of_lt_of_le hz5 hb6.size
      clear hb6
      go_wp2_with fail
      refine (col_any _ _ _ hlc).mono ?_
      rintro e w7 ⟨rfl, hb7⟩
      rw [HV.out.1]
      have hB7 := below_next hB6 hb7
      clear hb7
      go_wp2_with fail
      refine (newPos_any _ _ _ _ ⟨by omega, by omega⟩ b1 b2).mono ?_
      rintro e w8 ⟨rfl, hb8⟩
      have hB8 := below_next hB7 hb8
      clear hb8
      go_wp2_with fail
      refine (pstr_any _ _ _ hlc (tab_below hT hB8)).mono ?_
      rintro e w9 ⟨rfl, hb9⟩
      rw [HU.out.2, HV.out.2, ← HS.out]
      have hB9 := below_next hB8 hb9
      clear hb9
      have ss : (s.toList == s.toList) = true := by simp
      go_wp2_with fail
      go_ret
      exact ⟨rfl, hB9⟩
end Go.Proofs.YtophjoaadkdhhaaDoor.fnPosStringParsesBack
