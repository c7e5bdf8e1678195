/- What zzRPTBuild makes: n parentheses, one in the other, around the inner node. Conditions: n at most 65536. -/
import Derived.Test.YtdhoamfpeioieaaChain
import Derived.Laws.OwnMore
import Derived.Laws.MakeOwn
import Derived.LoopTactic
import Derived.Deep.RegionHeld3
namespace Go.Proofs.Ytdhoamfpeioieaa
open Go.RowKit
set_option linter.unusedVariables false

theorem wp_gen {P : Program} {c : Code} {Q : Exit → Act → World → Prop} {a : Act} {W : World} (R : World → Prop) (h : R W) (k : ∀ W', R W' → c.wp P Q a W') : c.wp P Q a W := k W h
def partV (v : Nat → Value) (z : Value) (n k : Nat) : List Value := (List.range k).map v ++ List.replicate (n - k) z
theorem partV_zero (v : Nat → Value) (z : Value) (n : Nat) : partV v z n 0 = List.replicate n z := by simp [partV]
theorem partV_at (v : Nat → Value) (z : Value) (n k : Nat) (hk : k < n) : (partV v z n k)[k]? = some z := by
  unfold partV
  rw [List.getElem?_append_right (by simp), show n - k = (n - (k + 1)) + 1 by omega, List.replicate_succ]
  simp
theorem partV_set (v : Nat → Value) (z : Value) (n k : Nat) (hk : k < n) : (partV v z n k).set k (v k) = partV v z n (k + 1) := by
  unfold partV
  rw [List.set_append_right _ _ (by simp), show n - k = (n - (k + 1)) + 1 by omega, List.replicate_succ]
  simp [List.range_succ]
theorem partV_get (v : Nat → Value) (z : Value) (n i : Nat) (hi : i < n) : (partV v z n n)[i]? = some (v i) := by
  unfold partV
  rw [List.getElem?_append_left (by simp; omega)]
  simp [hi]
theorem made_cells (z : Value) (n : Nat) (h : z.cells = #[z]) : (madeCells z.cells (n * 1)).toList = List.replicate n z := by
  rw [h, Nat.mul_one, toList_madeCells_one]
def ptrV (G i : Nat) : Value := .pointer (some ⟨G + i, 0, none⟩)
theorem infoP : (Try.prog.info? 62).map (fun i => (i.zero, i.size, i.bytes)) = some (some (.pointer none), 1, 8) := by kernel_rfl
/-- the row of pointers and the nodes' own cells after k rounds of the first loop -/
def R1 (g n : Nat) (w0 : World) (k : Nat) (wr : World) : Prop :=
  wr.heap.size = g + 1 + k ∧ wr.ownsRow g 62 1 (.slice (some ⟨g, 0, none⟩) n n) n (partV (ptrV (g + 1)) (.pointer none) n k) ∧ (∀ i, i < k → wr.cell? ⟨g + 1 + i, 4, none⟩ = some .nilIface ∧ wr.frozen? ⟨g + 1 + i, 4, none⟩ = false) ∧ Below g w0 wr
/-- .. and after k rounds of the second -/
def R2 (g n : Nat) (w0 : World) (k : Nat) (wr : World) : Prop :=
  wr.heap.size = g + 1 + n ∧ (∀ i, i < n → wr.cell? ⟨g, i, none⟩ = some (ptrV (g + 1) i)) ∧ (∀ i, i < n → wr.frozen? ⟨g + 1 + i, 4, none⟩ = false) ∧ (∀ i, i < n → k ≤ i → wr.cell? ⟨g + 1 + i, 4, none⟩ = some .nilIface) ∧ (∀ i, i < k → wr.cell? ⟨g + 1 + i, 4, none⟩ = some (.iface 62 (ptrV (g + 1) (i + 1)))) ∧ Below g w0 wr
theorem r1_step {g n k : Nat} {w0 wr : World} (h : R1 g n w0 k wr) (hk : k < n) : R1 g n w0 (k + 1) ((wr.setCell ⟨g, k, none⟩ (.pointer (some ⟨wr.heap.size, 0, none⟩))).alloc (.cells #[.int .u32 0, .int .u32 0, .int .u32 0, .int .u32 0, .nilIface] 68)) := by
  obtain ⟨hs, ho, hc, hb⟩ := h
  have hst := (ho.stored k (ptrV (g + 1) k)).1
  rw [partV_set _ _ n k hk] at hst
  have e : (Value.pointer (some ⟨wr.heap.size, 0, none⟩)) = ptrV (g + 1) k := by unfold ptrV; rw [hs]
  rw [e]
  refine ⟨by simp [hs]; omega, hst.alloc _, fun i hi => ?_, (hb.setCell (Nat.le_refl _) _).alloc (by simp [hs]; omega) _⟩
  by_cases hik : i < k
  · obtain ⟨c1, c2⟩ := hc i hik
    have c3 : (wr.setCell ⟨g, k, none⟩ (ptrV (g + 1) k)).cell? ⟨g + 1 + i, 4, none⟩ = some .nilIface := by
      rw [World.cell?_setCell_other _ _ _ _ (fun e => by injection e with e; omega)]; exact c1
    refine ⟨cell_alloc c3, ?_⟩
    have : g + 1 + i < wr.heap.size := by omega
    simp [go_sem, this, c2]
  · obtain rfl : i = k := by omega
    rw [← hs]
    exact ⟨by simp [go_sem], by simp [go_sem]⟩
theorem r2_start {g n : Nat} {w0 wr : World} (h : R1 g n w0 n wr) : R2 g n w0 0 wr := by
  obtain ⟨hs, ho, hc, hb⟩ := h
  exact ⟨hs, fun i hi => by rw [ho.cellAt i (by omega), partV_get _ _ _ _ hi], fun i hi => (hc i hi).2, fun i hi _ => (hc i hi).1, fun i hi => absurd hi (by omega), hb⟩
theorem far {wr : World} {b c i l : Nat} {v u : Value} (h : wr.cell? ⟨b, i, none⟩ = some v) (hne : b ≠ c) : ((wr.setCell ⟨c, l, none⟩ u).drew).cell? ⟨b, i, none⟩ = some v := by
  show (wr.setCell ⟨c, l, none⟩ u).cell? ⟨b, i, none⟩ = some v
  rw [World.cell?_setCell_other _ _ _ _ (fun e => by injection e with e; omega)]; exact h
theorem r2_step {g n k : Nat} {w0 wr : World} (h : R2 g n w0 k wr) (hk : k + 1 < n) : R2 g n w0 (k + 1) ((wr.setCell ⟨g + 1 + k, 4, none⟩ (.iface 62 (ptrV (g + 1) (k + 1)))).drew) := by
  obtain ⟨hs, hr, hf, hn, hd, hb⟩ := h
  refine ⟨by simpa using hs, fun i hi => far (hr i hi) (by omega), fun i hi => ?_, fun i hi hki => far (hn i hi (by omega)) (by omega), fun i hi => ?_, (hb.setCell (by simp; omega) _).drew⟩
  · have := hf i hi
    simpa [go_sem] using this
  · by_cases hik : i < k
    · exact far (hd i hik) (by omega)
    · obtain rfl : i = k := by omega
      have := hn i (by omega) (Nat.le_refl _)
      show (wr.setCell ⟨g + 1 + i, 4, none⟩ (.iface 62 (ptrV (g + 1) (i + 1)))).cell? ⟨g + 1 + i, 4, none⟩ = _
      simp [go_sem, this]
theorem run_make_rowN {P : Program} (t e : TypeId) (i : TypeInfo) (z : Value) (ht : P.underlying t = some (.slice e)) (hi : P.info? e = some i) (hz : i.zero = some z)
    (kl kc : IntKind) (n c : Nat) (hnc : n ≤ c) (hbytes : i.bytes * c ≤ 281474976710656) (h63 : c ≤ 9223372036854775807) (w : World) :
    (Instr.makeSlice t (.int kl (n : Int)) (.int kc (c : Int))).run P w = .ok (.slice (some ⟨w.heap.size, 0, none⟩) n c) (w.alloc (.cells (madeCells z.cells (c * i.size)) e)) := by
  have hb : (i.bytes : Int) * (c : Int) ≤ 281474976710656 := by
    have h : ((i.bytes * c : Nat) : Int) ≤ 281474976710656 := by omega
    rwa [Int.natCast_mul] at h
  have hr := run_make (P := P) w t e i z ht hi hz kl kc n c (by omega) (by omega) hb (by omega)
  simp only [Int.toNat_natCast] at hr
  exact hr
theorem results_tmp4 {fn : Func} {t u v x : Tmp} (h : fn.results = #[.tmp t, .tmp u, .tmp v, .tmp x]) (tmps : Array Value) (P : Program) (w : World) :
    (results fn tmps).run P w = .ok (.tuple #[tmps.getD t undef, tmps.getD u undef, tmps.getD v undef, tmps.getD x undef]) w := by simp [results, h]
theorem r1_start {w0 : World} {g n : Nat} {C : Array Value} (hg : w0.heap.size = g) (hn : n ≤ 65536) (hC : C.toList = List.replicate n (.pointer none)) : R1 g n w0 0 (w0.alloc (.cells C 62)) := by
  subst hg
  refine ⟨by simp, ?_, fun i hi => absurd hi (by omega), (Below.refl _ _).alloc (Nat.le_refl _) _⟩
  have h := World.ownsRow_lit (e := 62) (size := 1) (base := w0.heap.size) w0 C n (Nat.le_refl _) (by unfold maxLen; omega) (by have h2 := congrArg List.length hC; simpa using h2)
  rw [hC] at h
  rw [partV_zero]
  exact h
/-- the inner node, by its kind -/
def innerV (kind : Int) (W U B : Nat) : Value := if kind = 1 then .iface 55 (.pointer (some ⟨U, 0, none⟩)) else if kind = 2 then .iface 56 (.pointer (some ⟨B, 0, none⟩)) else .iface 30 (.pointer (some ⟨W, 0, none⟩))
/-- what stands in memory when it is built -/
def Built (n : Nat) (iv : Value) (W U B g : Nat) (w' : World) : Prop :=
  w'.cell? ⟨U, 2, none⟩ = some (.int .u32 39) ∧ w'.cell? ⟨B, 2, none⟩ = some (.int .u32 45) ∧ (∃ a c, w'.cell? ⟨W, 0, none⟩ = some (.slice a 1 c)) ∧ g + 1 + n ≤ w'.heap.size ∧
    (∀ i, i < n → w'.cell? ⟨g, i, none⟩ = some (ptrV (g + 1) i)) ∧ (∀ i, i + 1 < n → w'.cell? ⟨g + 1 + i, 4, none⟩ = some (.iface 62 (ptrV (g + 1) (i + 1)))) ∧ (0 < n → w'.cell? ⟨g + 1 + (n - 1), 4, none⟩ = some iv)
theorem built_of {j g W U B cc : Nat} {a2 : Option Addr} {iv v : Value} {w0 wr : World} (hsz : w0.heap.size = g) (hW : W < g) (hU : U < g) (hB : B < g) (u2 : w0.cell? ⟨U, 2, none⟩ = some (.int .u32 39)) (b2 : w0.cell? ⟨B, 2, none⟩ = some (.int .u32 45)) (w2 : w0.cell? ⟨W, 0, none⟩ = some (.slice a2 1 cc))
    (h : wr.heap.size = g + 1 + (j + 1) ∧ (∀ i, i < j + 1 → wr.cell? ⟨g, i, none⟩ = some (ptrV (g + 1) i)) ∧ (∀ i, i < j → wr.cell? ⟨g + 1 + i, 4, none⟩ = some (.iface 62 (ptrV (g + 1) (i + 1)))) ∧ Below g w0 wr) (c3 : wr.cell? ⟨g + 1 + j, 4, none⟩ = some .nilIface) (hv : iv = v) :
    Built (j + 1) iv W U B g (wr.setCell ⟨g + 1 + j, 4, none⟩ v) := by
  subst hv
  obtain ⟨hs, hr, hd, hb⟩ := h
  have fa : ∀ {b i : Nat} {x : Value}, wr.cell? ⟨b, i, none⟩ = some x → b ≠ g + 1 + j → (wr.setCell ⟨g + 1 + j, 4, none⟩ iv).cell? ⟨b, i, none⟩ = some x := fun h hne => by
    rw [World.cell?_setCell_other _ _ _ _ (fun e => by injection e with e; omega)]; exact h
  have lo : ∀ {b i : Nat} {x : Value}, w0.cell? ⟨b, i, none⟩ = some x → b < g → wr.cell? ⟨b, i, none⟩ = some x := fun {b i x} h hlt => by
    rw [hb.cell (p := ⟨b, i, none⟩) hlt]; exact h
  refine ⟨fa (lo u2 hU) (by omega), fa (lo b2 hB) (by omega), ⟨a2, cc, fa (lo w2 hW) (by omega)⟩, by simp; omega, fun i hi => fa (hr i hi) (by omega), fun i hi => fa (hd i (by omega)) (by omega), fun _ => ?_⟩
  rw [Nat.add_sub_cancel]
  simp [go_sem, c3]
set_option maxRecDepth 100000 in
set_option maxHeartbeats 2000000 in
theorem bd_any (n : Nat) (kind : Int) (s : ByteArray) (w : World) (hn : n ≤ 65536) :
    Calls Try.prog 21 #[.int .i64 n, .int .i64 kind, .string s] w fun e w' => ∃ W U B g, e = .returned (.tuple #[.pointer (some ⟨W, 0, none⟩), .pointer (some ⟨U, 0, none⟩), .pointer (some ⟨B, 0, none⟩), .slice (some ⟨g, 0, none⟩) n n]) ∧ Built n (innerV kind W U B) W U B g w' ∧ Below w.heap.size w w' := by
  obtain ⟨i0, hi, hz0, hz1, hz2⟩ := info_parts infoP
  have hmk : ∀ W : World, (Instr.makeSlice 57 (.int .i64 (n : Int)) (.int .i64 (n : Int))).run Try.prog W = .ok (.slice (some ⟨W.heap.size, 0, none⟩) n n) (W.alloc (.cells (madeCells (Value.pointer none).cells (n * 1)) 62)) := fun W => by
    have h := run_make_rowN (P := Try.prog) 57 62 i0 (.pointer none) Try.underlying57 hi hz0 .i64 .i64 n n (Nat.le_refl _) (by rw [hz2]; omega) (by omega) W
    rw [hz1] at h
    exact h
  clear hi hz0 hz1 hz2
  go_enter Try.func21, Try.ntmps21
  go_wp2_with (go_at_call 30; go_in)
  refine wp_gen (fun V => ∃ w0 : World, w0.heap.size = w.heap.size + 1 + 1 + 1 + 1 + 1 + 1 + 1 + 1 ∧ Below w.heap.size w w0 ∧ w0.cell? ⟨w.heap.size + 1 + 1 + 1, 2, none⟩ = some (.int .u32 39) ∧ w0.cell? ⟨w.heap.size + 1 + 1 + 1 + 1 + 1 + 1 + 1, 2, none⟩ = some (.int .u32 45) ∧ (∃ a c, w0.cell? ⟨w.heap.size + 1 + 1, 0, none⟩ = some (.slice a 1 c)) ∧ R1 (w.heap.size + 1 + 1 + 1 + 1 + 1 + 1 + 1 + 1) n w0 0 V) ?_ ?_
  · refine ⟨_, ?_, ?_, ?_, ?_, ?_, r1_start ?_ hn ?_⟩
    · simp
    · go_grown
    · simp [go_sem]
    · simp [go_sem]
    · exact ⟨some ⟨w.heap.size + 1, 0, none⟩, 1, by simp [go_sem]⟩
    · simp
    · first | exact made_cells _ _ rfl | exact toList_madeCells_one _ _ | simp [toList_madeCells_one]
  rintro V ⟨w0, hsz, hB0, u2, b2, w2, hR⟩
  have HR := Lib.hid hR
  have HS := Lib.hid hsz
  have H0 := Lib.hid (And.intro hB0 (And.intro u2 (And.intro b2 w2)))
  clear hR hsz hB0 u2 b2 w2 hmk
  go_loopw [14] (fun i wr => ∃ k : Nat, k ≤ n ∧ i = .int .i64 k ∧ Hid (R1 (w.heap.size + 1 + 1 + 1 + 1 + 1 + 1 + 1 + 1) n w0 k wr)) (fun i _ => n - (intOf i).toNat)
  case atStart => exact ⟨0, Nat.zero_le _, rfl, HR⟩
  case round =>
    obtain ⟨k, hk, rfl, HR1⟩ := hrel
    clear HR
    by_cases hlt : k < n
    · have c2 : wr.cell? ⟨w.heap.size + 1 + 1 + 1 + 1 + 1 + 1 + 1 + 1, k, none⟩ = some (.pointer none) := by
        rw [HR1.out.2.1.cellAt k (by omega)]
        exact partV_at _ _ n k hlt
      have f2 := HR1.out.2.1.frozenAt k
      have z2 := World.block_lt_of_cell? _ _ c2
      simp only at z2
      go_wp2_with fail
      go_roundw
      case rel => exact ⟨k + 1, by omega, by go_num, Lib.hid (r1_step HR1.out hlt)⟩
      case measure => simp [intOf]; omega
    · obtain rfl : k = n := by omega
      have HR2 := Lib.hid (r2_start HR1.out)
      clear HR1
      go_wp2_with fail
      go_loopw [15] (fun i wr => ∃ j : Nat, j ≤ k ∧ i = .int .i64 j ∧ (0 < k → j + 1 ≤ k) ∧ Hid (R2 (w.heap.size + 1 + 1 + 1 + 1 + 1 + 1 + 1 + 1) k w0 j wr)) (fun i _ => k - (intOf i).toNat)
      case atStart => exact ⟨0, Nat.zero_le _, rfl, fun h => h, HR2⟩
      case round =>
        obtain ⟨j, hj, rfl, hj1, HR3⟩ := hrel
        clear HR2
        by_cases hlt : j + 1 < k
        · obtain ⟨hs, hr, hf, hnl, hd, hb⟩ := HR3.out
          have c1 := hr j (by omega)
          have c2 := hr (j + 1) hlt
          have c3 := hnl j (by omega) (Nat.le_refl _)
          have f3 := hf j (by omega)
          have z3 := World.block_lt_of_cell? _ _ c3
          simp only at z3
          unfold ptrV at c1 c2
          clear hs hr hf hnl hd hb
          have C1 := Lib.hid c1
          have C2 := Lib.hid c2
          have v0 : (0 : Int) ≤ (j : Int) := by omega
          have v4 : (j : Int) < (k : Int) := by omega
          have v1 := IntWalk.i64_in ((j : Int) + 1) (by omega)
          have v2 : (0 : Int) ≤ (j : Int) + 1 := by omega
          have v3 : ((j : Int) + 1).toNat = j + 1 := by omega
          have v5 : (j : Int) + 1 < (k : Int) := by omega
          have hlt' : (j : Int) < (k : Int) - 1 := by omega
          go_wp2_with fail
          go_region_held3 (fun W9 => W9.cell? ⟨w.heap.size + 1 + 1 + 1 + 1 + 1 + 1 + 1 + 1, j, none⟩ = some (.pointer (some ⟨w.heap.size + 1 + 1 + 1 + 1 + 1 + 1 + 1 + 1 + 1 + j, 0, none⟩)) ∧ W9.cell? ⟨w.heap.size + 1 + 1 + 1 + 1 + 1 + 1 + 1 + 1, j + 1, none⟩ = some (.pointer (some ⟨w.heap.size + 1 + 1 + 1 + 1 + 1 + 1 + 1 + 1 + 1 + (j + 1), 0, none⟩)))
            (first | exact ⟨C1.out, C2.out⟩ | exact ⟨far C1.out (by omega), far C2.out (by omega)⟩)
            (fail)
          go_wp2_with fail
          go_roundw
          case rel =>
            (repeat apply Exists.intro)
            exact ⟨⟨j + 1, by omega, by go_num, fun _ => by omega, Lib.hid (r2_step HR3.out hlt)⟩, rfl⟩
          case measure => simp [intOf]; omega
        · have hq : ¬ (j : Int) < (k : Int) - 1 := by omega
          obtain ⟨hB0, u2, b2, a2, cc, w2⟩ := H0.out
          by_cases h0 : 0 < k
          · obtain rfl : j + 1 = k := by omega
            obtain ⟨hs, hr, hf, hnl, hd, hb⟩ := HR3.out
            have c1 := hr j (by omega)
            have c3 := hnl j (by omega) (Nat.le_refl _)
            have f3 := hf j (by omega)
            have z3 := World.block_lt_of_cell? _ _ c3
            simp only at z3
            unfold ptrV at c1
            have e1 : ((j + 1 : Nat) : Int) - 1 = j := by omega
            have v0 : (0 : Int) ≤ (j : Int) := by omega
            have hk3 : kind = 1 ∨ kind = 2 ∨ ((kind == 1) = false ∧ (kind == 2) = false) := by
              by_cases h1 : kind = 1
              · exact .inl h1
              · by_cases h2 : kind = 2
                · exact .inr (.inl h2)
                · exact .inr (.inr ⟨by simp [h1], by simp [h2]⟩)
            have HH := Lib.hid (And.intro hs (And.intro hr (And.intro hd hb)))
            clear hs hr hf hnl hd hb e1
            rcases hk3 with rfl | rfl | ⟨h1, h2⟩
            all_goals
              go_wp2_with (go_at_call 31; go_in)
              refine bodyPost_ret (results_tmp4 rfl _ _ _) rfl ?_
              refine ⟨_, _, _, _, rfl, built_of HS.out (by omega) (by omega) (by omega) u2 b2 w2 HH.out c3 ?_, ?_⟩
              · first | (simp [innerV]; done) | (simp at h1 h2; simp [innerV, h1, h2])
              · exact (hB0.trans (HH.out.2.2.2.mono (by have := hB0.size; have := HS.out; omega))).setCell (by simp; omega) _
          · obtain rfl : k = 0 := by omega
            have hb := HR3.out.2.2.2.2.2
            have HB := Lib.hid hb
            clear hb
            go_wp2_with fail
            refine bodyPost_ret (results_tmp4 rfl _ _ _) rfl ?_
            exact ⟨_, _, _, _, rfl, ⟨by rw [HB.out.cell (p := ⟨_, 2, none⟩) (by simp)]; exact u2, by rw [HB.out.cell (p := ⟨_, 2, none⟩) (by simp)]; exact b2, ⟨a2, cc, by rw [HB.out.cell (p := ⟨_, 0, none⟩) (by simp)]; exact w2⟩, by have := HR3.out.1; omega, fun i hi => absurd hi (by omega), fun i hi => absurd hi (by omega), fun h => absurd h (by omega)⟩, hB0.trans (HB.out.mono (by have := hB0.size; have := HS.out; omega))⟩
end Go.Proofs.Ytdhoamfpeioieaa
