/- The walk of FnPostNestedScript: the Go text returns true. Conditions: none. -/
import Derived.Test.YtdmmpgeaendjpaaNp
import Derived.OpenShut
import Derived.Laws.MakeOwn
namespace Go.Proofs.Ytdmmpgeaendjpaa.fnPostNestedScript
open Go.RowKit
set_option linter.unusedVariables false
set_option linter.unusedSimpArgs false

theorem run_make_rowN {P : Program} (t e : TypeId) (i : TypeInfo) (z : Value) (ht : P.underlying t = some (.slice e)) (hi : P.info? e = some i) (hz : i.zero = some z)
    (kl kc : IntKind) (n c : Nat) (hnc : n ≤ c) (hbytes : i.bytes * c ≤ 281474976710656) (h63 : c ≤ 9223372036854775807) (w : World) :
    (Instr.makeSlice t (.int kl (n : Int)) (.int kc (c : Int))).run P w = .ok (.slice (some ⟨w.heap.size, 0, none⟩) n c) (w.alloc (.cells (madeCells z.cells (c * i.size)) e)) := by
  have hb : (i.bytes : Int) * (c : Int) ≤ 281474976710656 := by
    have h : ((i.bytes * c : Nat) : Int) ≤ 281474976710656 := by omega
    rwa [Int.natCast_mul] at h
  have hr := run_make (P := P) w t e i z ht hi hz kl kc n c (by omega) (by omega) hb (by omega)
  simp only [Int.toNat_natCast] at hr
  exact hr
theorem infoSave : (Try.prog.info? 51).map (fun i => (i.zero, i.size, i.bytes)) = some (some (.agg #[.int .u32 0, .int .i64 0]), 2, 16) := by kernel_rfl
theorem info32 : (Try.prog.info? 43).map (fun i => (i.zero, i.size, i.bytes)) = some (some (.int .u32 0), 1, 4) := by kernel_rfl
theorem infoInt : (Try.prog.info? 3).map (fun i => (i.zero, i.size, i.bytes)) = some (some (.int .i64 0), 1, 8) := by kernel_rfl
theorem mk_save (n : Nat) (hn : n ≤ 65536) : ∀ W : World, (Instr.makeSlice 45 (.int .i64 0) (.int .i64 (n : Int))).run Try.prog W = .ok (.slice (some ⟨W.heap.size, 0, none⟩) 0 n) (W.alloc (.cells (madeCells #[.int .u32 0, .int .i64 0] (n * 2)) 51)) := fun W => by
  obtain ⟨i0, hi, hz0, hz1, hz2⟩ := info_parts infoSave
  have h := run_make_rowN (P := Try.prog) 45 51 i0 _ Try.underlying45 hi hz0 .i64 .i64 0 n (Nat.zero_le _) (by rw [hz2]; omega) (by omega) W
  rw [hz1] at h
  exact h
theorem mk_q (n : Nat) (hn : n ≤ 65536) : ∀ W : World, (Instr.makeSlice 46 (.int .i64 1) (.int .i64 ((n : Int) + 1))).run Try.prog W = .ok (.slice (some ⟨W.heap.size, 0, none⟩) 1 (n + 1)) (W.alloc (.cells (madeCells #[.int .u32 0] (n + 1)) 43)) := fun W => by
  obtain ⟨i0, hi, hz0, hz1, hz2⟩ := info_parts info32
  have h := run_make_rowN (P := Try.prog) 46 43 i0 _ Try.underlying46 hi hz0 .i64 .i64 1 (n + 1) (by omega) (by rw [hz2]; omega) (by omega) W
  rw [hz1, Nat.mul_one] at h
  exact h
theorem mk_b (n : Nat) (hn : n ≤ 65536) : ∀ W : World, (Instr.makeSlice 47 (.int .i64 1) (.int .i64 ((n : Int) + 1))).run Try.prog W = .ok (.slice (some ⟨W.heap.size, 0, none⟩) 1 (n + 1)) (W.alloc (.cells (madeCells #[.int .i64 0] (n + 1)) 3)) := fun W => by
  obtain ⟨i0, hi, hz0, hz1, hz2⟩ := info_parts infoInt
  have h := run_make_rowN (P := Try.prog) 47 3 i0 _ Try.underlying47 hi hz0 .i64 .i64 1 (n + 1) (by omega) (by rw [hz2]; omega) (by omega) W
  rw [hz1, Nat.mul_one] at h
  exact h
theorem own_mk {w : World} {base g n cap size : Nat} {e : TypeId} {C : Array Value} {xs : List Value} (hg : w.heap[g]? = some (.cells C e (0, 0))) (hb : base ≤ g) (hn : n ≤ cap) (hc : cap ≤ maxLen) (hs : C.size = cap * size) (hx : C.toList.take (n * size) = xs) (hl : xs.length = n * size) : w.ownsRow base e size (.slice (some ⟨g, 0, none⟩) n cap) n xs :=
  ⟨hl, .inr ⟨g, cap, C, rfl, hb, hg, hn, hc, hs, hx⟩⟩
/-- a row cut by its last element -/
theorem own_cut {w : World} {base g n cap size : Nat} {e : TypeId} {xs : List Value} (h : w.ownsRow base e size (.slice (some ⟨g, 0, none⟩) (n + 1) cap) (n + 1) xs) : w.ownsRow base e size (.slice (some ⟨g, 0, none⟩) n cap) n (xs.take (n * size)) := by
  obtain ⟨hl, h⟩ := h
  rcases h with ⟨h, _⟩ | ⟨g', cap', cur, hv, hb, hg, hnc, hcm, hcs, ht⟩
  · simp at h
  · simp only [Value.slice.injEq, Option.some.injEq, Addr.mk.injEq, and_true, true_and] at hv
    obtain ⟨rfl, rfl⟩ := hv
    have hle : n * size ≤ (n + 1) * size := Nat.mul_le_mul_right _ (by omega)
    refine own_mk hg hb (by omega) hcm hcs ?_ ?_
    · rw [← ht, List.take_take, Nat.min_eq_left hle]
    · rw [List.length_take, hl, Nat.min_eq_left hle]
def svL (l : List Int) : List Value := l.flatMap fun q => [.int .u32 q, .int .i64 0]
theorem svL_length (l : List Int) : (svL l).length = l.length * 2 := by
  induction l with
  | nil => rfl
  | cons a l ih =>
    have e : svL (a :: l) = [.int .u32 a, .int .i64 0] ++ svL l := rfl
    rw [e, List.length_append, ih]
    simp
    omega
theorem svL_snoc (l : List Int) (q : Int) : svL (l ++ [q]) = svL l ++ [.int .u32 q, .int .i64 0] := by simp [svL]
theorem heap_at (w : World) (o : Obj) : (w.alloc o).heap[w.heap.size]? = some o := by
  show (w.heap.push o)[w.heap.size]? = _
  simp
theorem heap_at1 (w : World) (a b : Obj) : ((w.alloc a).alloc b).heap[w.heap.size]? = some a := by rw [Below.heap_alloc _ _ _ (by simp), heap_at]
theorem heap_at2 (w : World) (a b c : Obj) : (((w.alloc a).alloc b).alloc c).heap[w.heap.size]? = some a := by rw [Below.heap_alloc _ _ _ (by simp; omega), heap_at1]
theorem heap_b (w : World) (a b c : Obj) : (((w.alloc a).alloc b).alloc c).heap[w.heap.size + 1]? = some b := by
  have e1 : (w.alloc a).heap.size = w.heap.size + 1 := by simp
  rw [← e1]
  exact heap_at1 (w.alloc a) b c
theorem heap_c (w : World) (a b c : Obj) : (((w.alloc a).alloc b).alloc c).heap[w.heap.size + 1 + 1]? = some c := by
  have e1 : ((w.alloc a).alloc b).heap.size = w.heap.size + 1 + 1 := by simp
  rw [← e1]
  exact heap_at _ c
theorem take_one (z : Value) (n : Nat) : ((madeCells #[z] (n + 1)).setIfInBounds 0 z).toList.take (1 * 1) = [z] := by
  rw [Array.toList_setIfInBounds, toList_madeCells_one, List.replicate_succ]; rfl
/-- the model and the parser at depth d -/
def PN (S Q B P N : Nat) (w0 : World) (d : Nat) (qs : List Int) (wr : World) : Prop :=
  qs.length = d + 1 ∧ (∀ q ∈ qs, 0 ≤ q ∧ q ≤ 4294967295) ∧ d ≤ N ∧ (P < S ∧ S < Q ∧ Q < B ∧ B < wr.heap.size) ∧
  wr.ownsRow S 51 2 (.slice (some ⟨S, 0, none⟩) d N) d (svL (qs.take d)) ∧ wr.ownsRow Q 43 1 (.slice (some ⟨Q, 0, none⟩) (d + 1) (N + 1)) (d + 1) (qs.map (Value.int .u32)) ∧
  wr.ownsRow B 3 1 (.slice (some ⟨B, 0, none⟩) (d + 1) (N + 1)) (d + 1) (List.replicate (d + 1) (.int .i64 0)) ∧ ParAt wr P (qs.getD d 0) ∧ Below P w0 wr
theorem take_last (qs : List Int) (d : Nat) (h : qs.length = d + 1) : qs.take d ++ [qs.getD d 0] = qs := by
  have e : qs.getD d 0 = qs[d]'(by omega) := by simp [List.getD, h]
  rw [e, List.take_append_getElem (by omega), List.take_of_length_le (by omega)]
theorem getD_last (qs : List Int) (d : Nat) (q : Int) (h : qs.length = d + 1) : (qs ++ [q]).getD (d + 1) 0 = q := by simp [List.getD, h]
theorem getD_mem (qs : List Int) (d : Nat) (h : qs.length = d + 1) : qs.getD d 0 ∈ qs := by
  have e : qs.getD d 0 = qs[d]'(by omega) := by simp [List.getD, h]
  rw [e]; exact List.getElem_mem _
theorem svL_get (l : List Int) (e : Nat) (h : e < l.length) : (svL l)[e * 2]? = some (.int .u32 (l.getD e 0)) ∧ (svL l)[e * 2 + 1]? = some (.int .i64 0) := by
  induction l generalizing e with
  | nil => simp at h
  | cons a l ih =>
    have e1 : svL (a :: l) = .int .u32 a :: .int .i64 0 :: svL l := rfl
    cases e with
    | zero => simp [e1, List.getD]
    | succ e =>
      have h1 := ih e (by simpa using h)
      rw [e1, show (e + 1) * 2 = e * 2 + 1 + 1 by omega]
      simpa [List.getD] using h1
theorem grownOf {w w' : World} (h : Below w.heap.size w w') (row : Option Nat) : w.grownBy w' row := ⟨h.1, h.2, h.3, h.4, fun k hk _ => h.5 k hk⟩
theorem ne_some {a b : Nat} {v : Value} (h : v.ownBlock = some a) (hn : a ≠ b) : v.ownBlock = none ∨ v.ownBlock ≠ some b := .inr (by rw [h]; simp [hn])
theorem row_at (qs : List Int) (d : Nat) (h : qs.length = d + 1) : (qs.map (Value.int .u32))[d]? = some (.int .u32 (qs.getD d 0)) := by
  have e : qs.getD d 0 = qs[d]'(by omega) := by simp [List.getD, h]
  rw [List.getElem?_map, List.getElem?_eq_getElem (by omega), e]; rfl
theorem PN.below {S Q B P N d : Nat} {w0 V U : World} {qs : List Int} (h : PN S Q B P N w0 d qs V) (hb : Below V.heap.size V U) (hz : w0.heap.size ≤ P) : PN S Q B P N w0 d qs U := by
  obtain ⟨h1, h2, h3, ⟨z1, z2, z3, z4⟩, r1, r2, r3, hp, hw⟩ := h
  have zs := hb.size
  exact ⟨h1, h2, h3, ⟨z1, z2, z3, by omega⟩, r1.kept (grownOf hb none) (.inr (by simp [Value.ownBlock])), r2.kept (grownOf hb none) (.inr (by simp [Value.ownBlock])), r3.kept (grownOf hb none) (.inr (by simp [Value.ownBlock])), hp.grown (grownOf hb none) (by simp), hw.grown (grownOf hb none) (by omega) (by simp)⟩
theorem PN.chk {S Q B P N d : Nat} {w0 V : World} {qs : List Int} {qt : Int} (h : PN S Q B P N w0 d qs V) (hz : w0.heap.size ≤ P) (et : qt = qs.getD d 0) : ∀ U, Below V.heap.size V U → Below V.heap.size V U ∧ U.cell? ⟨Q, d, none⟩ = some (.int .u32 qt) ∧ U.cell? ⟨B, d, none⟩ = some (.int .i64 0) := by
  intro U hU
  have hT := h.below hU hz
  refine ⟨hU, ?_, ?_⟩
  · rw [hT.2.2.2.2.2.1.cellAt d (by omega), et, row_at qs d hT.1]
  · rw [hT.2.2.2.2.2.2.1.cellAt d (by omega)]; simp
theorem svL_take (l : List Int) (e : Nat) : (svL l).take (e * 2) = svL (l.take e) := by
  induction l generalizing e with
  | nil => simp [svL]
  | cons a l ih =>
    have e1 : ∀ l, svL (a :: l) = .int .u32 a :: .int .i64 0 :: svL l := fun _ => rfl
    cases e with
    | zero => simp [svL]
    | succ e => rw [e1, show (e + 1) * 2 = e * 2 + 1 + 1 by omega, List.take_succ_cons, List.take_succ_cons, ih, List.take_succ_cons, e1]
theorem PN.pop {S P N d : Nat} {w0 V w3 : World} {qs : List Int} {o : Obj} (h : PN S (S + 1) (S + 1 + 1) P N w0 d qs V) (hd : 0 < d) (hz : w0.heap.size ≤ P) (hg : (V.alloc o).grownBy w3 (some P)) (hp : ParAt w3 P (qs.getD (d - 1) 0)) : PN S (S + 1) (S + 1 + 1) P N w0 (d - 1) (qs.take d) w3 := by
  obtain ⟨e, rfl⟩ : ∃ e, d = e + 1 := ⟨d - 1, by omega⟩
  simp only [Nat.add_sub_cancel] at hp ⊢
  obtain ⟨h1, h2, h3, ⟨z1, z2, z3, z4⟩, r1, r2, r3, hp0, hw⟩ := h
  have zs := hg.size
  simp at zs
  have b3 := (hw.alloc (by omega) o).grown hg (by simp; omega) (by intro k e; cases e; omega)
  refine ⟨by simp [h1], fun x hx => h2 x (List.mem_of_mem_take hx), by omega, ⟨z1, z2, z3, by omega⟩, ?_, ?_, ?_, ?_, b3⟩
  · have h := own_cut r1
    rw [svL_take] at h
    exact (h.alloc _).kept hg (ne_some (a := S) rfl (by omega))
  · have h := own_cut r2
    rw [Nat.mul_one, ← List.map_take] at h
    exact (h.alloc _).kept hg (ne_some (a := S + 1) rfl (by omega))
  · have h := own_cut r3
    rw [Nat.mul_one, List.take_replicate, Nat.min_eq_left (by omega)] at h
    exact (h.alloc _).kept hg (ne_some (a := S + 1 + 1) rfl (by omega))
  · have e1 : (qs.take (e + 1)).getD e 0 = qs.getD e 0 := by simp [List.getD, List.getElem?_take]
    rw [e1]; exact hp
def Bot (qs : List Int) : Prop := qs.getD 0 0 = 0
theorem Bot.push {qs : List Int} {d : Nat} {q : Int} (h : Bot qs) (hl : qs.length = d + 1) : Bot (qs ++ [q]) := by
  cases qs with
  | nil => simp at hl
  | cons a l => unfold Bot at *; simpa using h
theorem Bot.pop {qs : List Int} {d : Nat} (h : Bot qs) (hd : 0 < d) : Bot (qs.take d) := by
  obtain ⟨e, rfl⟩ : ∃ e, d = e + 1 := ⟨d - 1, by omega⟩
  cases qs with
  | nil => simpa using h
  | cons a l => unfold Bot at *; simpa using h
def lenOf : Value → Nat
  | .slice _ n _ => n
  | _ => 0
theorem PN.top {S Q B P N d : Nat} {w0 V : World} {qs : List Int} (h : PN S Q B P N w0 d qs V) (hd : 0 < d) : V.cell? ⟨S, (d - 1) * 2, none⟩ = some (.int .u32 (qs.getD (d - 1) 0)) ∧ V.cell? ⟨S, (d - 1) * 2 + 1, none⟩ = some (.int .i64 0) := by
  have hl := h.1
  have hg := svL_get (qs.take d) (d - 1) (by rw [List.length_take, hl]; omega)
  have e1 : (qs.take d).getD (d - 1) 0 = qs.getD (d - 1) 0 := by simp [List.getD, List.getElem?_take, show d - 1 < d by omega]
  rw [e1] at hg
  exact ⟨by rw [h.2.2.2.2.1.cellAt _ (by omega)]; exact hg.1, by rw [h.2.2.2.2.1.cellAt _ (by omega)]; exact hg.2⟩
set_option maxRecDepth 100000 in
set_option maxHeartbeats 4000000 in
theorem main (A : Option Addr) (n : Nat) (f : Nat → Int) (a0 : Option Addr) (len0 cap0 : Nat) (z0 : List Int) (w : World) (w0 : IsRow .u8 w a0 n cap0 z0) (hn : n ≤ 65536) :
    Calls Try.prog 5 #[.slice a0 n cap0] w fun e w' => e = .returned (.bool true) ∧ Below w.heap.size w w' := by
  have hm1 := mk_save n hn
  have hm2 := mk_q n hn
  have hm3 := mk_b n hn
  have hq0 : (madeCells #[Value.int .u32 0] (n + 1))[0]? = some (.int .u32 0) := by
    rw [← Array.getElem?_toList, toList_madeCells_one]; simp
  have hb0 : (madeCells #[Value.int .i64 0] (n + 1))[0]? = some (.int .i64 0) := by
    rw [← Array.getElem?_toList, toList_madeCells_one]; simp
  have n1 : (0 : Int) ≤ (n : Int) + 1 := by omega
  go_enter Try.func5, Try.ntmps5
  go_wp2_with (go_at_call 19; go_in)
  refine (clu_row a0 n cap0 z0 _ w0 (by omega)).mono ?_
  rintro e w1 ⟨A, rfl, hA, hb1⟩
  have HA := Lib.hid hA
  have H1 := Lib.hid hb1
  clear hA hb1
  go_wp2_with fail
  refine (np_any _).mono ?_
  rintro e w2 ⟨rfl, hp, hb2, hsz⟩
  have HP := Lib.hid hp
  have H2 := Lib.hid (below_next H1.out hb2)
  have HB2 := Lib.hid hb2
  have HSZ := Lib.hid hsz
  clear hb2 hp hsz
  go_wp2_with (first | (go_at_call 20; (refine (zh_any _ _ _ HP.out).mono ?_); rintro e w' ⟨rfl, rfl⟩) | (go_at_call 21; (refine (zq_any _ _ _ HP.out (by omega)).mono ?_); rintro e w' ⟨rfl, rfl⟩) | (go_at_call 22; (refine (zbu_any _ _ _ HP.out).mono ?_); rintro e w' ⟨rfl, rfl⟩))
  have hz1 : w1.heap.size < w'.heap.size := by have := HSZ.out; omega
  refine wp_gen (fun V => PN w'.heap.size (w'.heap.size + 1) (w'.heap.size + 1 + 1) w1.heap.size n w1 0 [0] V) ?_ ?_
  · refine ⟨rfl, by simp, Nat.zero_le _, ⟨hz1, by omega, by omega, by simp⟩, own_mk (heap_at2 _ _ _ _) (Nat.le_refl _) (Nat.zero_le _) (by unfold maxLen; omega) (by simp [madeCells]) rfl rfl, own_mk (heap_b _ _ _ _) (Nat.le_refl _) (by omega) (by unfold maxLen; omega) (by simp [madeCells]) (take_one _ _) rfl,
      own_mk (heap_c _ _ _ _) (Nat.le_refl _) (by omega) (by unfold maxLen; omega) (by simp [madeCells]) (take_one _ _) rfl, ?_, ?_⟩
    · exact ((HP.out.alloc _).alloc _).alloc _
    · exact ((HB2.out.alloc (by omega) _).alloc (by simp; omega) _).alloc (by simp; omega) _
  intro V hV
  have HV := Lib.hid hV
  clear hV hm1 hm2 hm3 hq0 hb0
  obtain ⟨S, eS⟩ : ∃ S, S = w'.heap.size := ⟨_, rfl⟩
  have HZ := Lib.hid (show ∀ k, k < n → 0 ≤ z0.getD k 0 ∧ z0.getD k 0 ≤ 255 from fun k hk => by
    rcases w0 with ⟨_, h, _⟩ | ⟨x, _, hl, _, hzl, _, hw⟩
    · omega
    · have : z0.getD k 0 ∈ z0 := by
        have hkl : k < z0.length := by omega
        have e : z0.getD k 0 = z0[k] := by simp [List.getD, hkl]
        rw [e]; exact List.getElem_mem _
      exact bounds_u8 (hw _ this))
  rw [← eS] at HV
  have HS1 := Lib.hid eS
  clear w0 eS
  obtain ⟨iS, hiS, _, hzS, _⟩ := info_parts infoSave
  obtain ⟨i32, hi32, _, hz32, _⟩ := info_parts info32
  obtain ⟨iI, hiI, _, hzI, _⟩ := info_parts infoInt
  have HIS := Lib.hid (And.intro hiS hzS)
  have HI32 := Lib.hid (And.intro hi32 hz32)
  have HII := Lib.hid (And.intro hiI hzI)
  clear hiS hzS hi32 hz32 hiI hzI
  go_loopw [7, 8, 9, 10] (fun sv qv bv i wr => ∃ d : Nat, ∃ qs : List Int, ∃ k : Nat, k ≤ n ∧ i = .int .i64 k ∧ sv = .slice (some ⟨S, 0, none⟩) d n ∧ qv = .slice (some ⟨S + 1, 0, none⟩) (d + 1) (n + 1) ∧ bv = .slice (some ⟨S + 1 + 1, 0, none⟩) (d + 1) (n + 1) ∧ d ≤ k ∧ Hid (Bot qs) ∧ Hid (PN S (S + 1) (S + 1 + 1) w1.heap.size n w1 d qs wr)) (fun _ _ _ i _ => n - (intOf i).toNat)
  case atStart => exact ⟨0, [0], 0, Nat.zero_le _, rfl, by rw [HS1.out], by rw [HS1.out], by rw [HS1.out], Nat.le_refl _, Lib.hid rfl, HV⟩
  case round =>
    obtain ⟨d, qs, k, hk, rfl, rfl, rfl, rfl, hdk, HBOT, HR⟩ := hrel
    clear HV
    by_cases hlt : k < n
    · obtain ⟨R, rfl, hr⟩ := HA.out k hlt
      have hz := HZ.out k hlt
      have hRP : R < w1.heap.size := by have := World.block_lt_of_cell? _ _ hr; simpa using this
      have r0 := HR.out.2.2.2.2.2.2.2.2.cell (p := ⟨R, k, none⟩) hRP
      rw [hr] at r0
      obtain ⟨op, eo⟩ : ∃ op, op = z0.getD k 0 := ⟨_, rfl⟩
      simp only [← eo] at r0 hz
      have zr := World.block_lt_of_cell? _ _ r0
      simp only at zr
      clear eo hr
      cases hbit : (bits .and .u8 op 1 == 1)
      · by_cases hd : 0 < d
        · have z1 := HR.out.2.2.2.1
          obtain ⟨r, er⟩ : ∃ r, r = qs.getD (d - 1) 0 := ⟨_, rfl⟩
          obtain ⟨q0, eq0⟩ : ∃ q0, q0 = qs.getD d 0 := ⟨_, rfl⟩
          have hP0 := HR.out.2.2.2.2.2.2.2.1
          rw [← eq0] at hP0
          have HP0 := Lib.hid hP0
          obtain ⟨s0, s1⟩ := PN.top HR.out hd
          rw [← er] at s0
          have v2 : (0 : Int) ≤ (d : Int) - 1 := by omega
          have v3 : ((d : Int) - 1).toNat = d - 1 := by omega
          have v4 : (d : Int) - 1 < (d : Int) := by omega
          have v5 : d - 1 < d := by omega
          have v7 : (1 : Int) ≤ (d : Int) := by omega
          have v1 := IntWalk.i64_in ((d : Int) - 1) (by omega)
          have HER := Lib.hid er
          clear hP0 eq0 er
          go_wp2_with fail
          refine (zpost_any w1.heap.size q0 r _ (by first | exact HP0.out | exact HP0.out.alloc _ | exact (HP0.out.alloc _).alloc _)).mono ?_
          rintro e w3 ⟨rfl, hP3, hg3⟩
          have HP3 := Lib.hid hP3
          have HG3 := Lib.hid hg3
          have zg := hg3.size
          simp at zg
          clear hP3 hg3
          go_wp2_with fail
          refine wp_gen (fun V => PN S (S + 1) (S + 1 + 1) w1.heap.size n w1 (d - 1) (qs.take d) V) (HR.out.pop hd (Nat.le_refl _) HG3.out (by rw [← HER.out]; exact HP3.out)) ?_
          intro V hV
          have HV := Lib.hid hV
          clear hV HR s0 s1 HP0 HP3 HG3 HER zg z1 r0 zr
          have zt := HV.out.2.2.2.1
          obtain ⟨qt, et⟩ : ∃ qt, qt = (qs.take d).getD (d - 1) 0 := ⟨_, rfl⟩
          have hqt : 0 ≤ qt ∧ qt ≤ 4294967295 := by rw [et]; exact HV.out.2.1 _ (getD_mem _ _ HV.out.1)
          have HK := Lib.hid (HV.out.chk (Nat.le_refl _) et)
          have HPB := Lib.hid (fun U (hU : Below V.heap.size V U) => show ParAt U w1.heap.size qt by rw [et]; exact (HV.out.below hU (Nat.le_refl _)).2.2.2.2.2.2.2.1)
          have HET := Lib.hid et
          clear et
          obtain ⟨c0, c1, c2⟩ := HK.out V (Below.refl _ V)
          have HQT := Lib.hid hqt
          clear hqt c0
          have v1 := IntWalk.i64_in ((d : Int) - 1) (by omega)
          have v2 : (0 : Int) ≤ (d : Int) - 1 := by omega
          have v3 : ((d : Int) - 1).toNat = (d - 1) := by omega
          have v4 : (d : Int) - 1 < (d : Int) := by omega
          have v5 : (d - 1) < d := by omega
          have v7 : (1 : Int) ≤ (d : Int) := by omega
          go_wp2_with fail
          go_region_held3 (fun U => Below V.heap.size V U ∧ U.cell? ⟨S + 1, (d - 1), none⟩ = some (.int .u32 qt) ∧ U.cell? ⟨S + 1 + 1, (d - 1), none⟩ = some (.int .i64 0))
            (exact HK.out _ (by go_grown))
            (first | (go_at_call 21; refine (zq_any _ _ _ (HPB.out _ (And.left (by assumption))) HQT.out).mono ?_; rintro e w' ⟨rfl, rfl⟩) | (go_at_call 22; refine (zbu_any _ _ _ (HPB.out _ (And.left (by assumption)))).mono ?_; rintro e w' ⟨rfl, rfl⟩) | (go_at_call 20; refine (zh_any _ _ _ (HPB.out _ (And.left (by assumption)))).mono ?_; rintro e w' ⟨rfl, rfl⟩))
          go_wp2_with fail
          go_roundw
          case rel => exact ⟨(d - 1), (qs.take d), k + 1, by omega, by go_num, rfl, by rw [show d - 1 + 1 = d by omega], by rw [show d - 1 + 1 = d by omega], by omega, Lib.hid (HBOT.out.pop hd), Lib.hid (HV.out.below (by go_grown) (Nat.le_refl _))⟩
          case measure => simp [intOf]; omega
        · go_wp2_with fail
          refine wp_gen (fun V => PN S (S + 1) (S + 1 + 1) w1.heap.size n w1 d qs V) HR.out ?_
          intro V hV
          have HV := Lib.hid hV
          clear hV HR r0 zr
          have zt := HV.out.2.2.2.1
          obtain ⟨qt, et⟩ : ∃ qt, qt = qs.getD d 0 := ⟨_, rfl⟩
          have hqt : 0 ≤ qt ∧ qt ≤ 4294967295 := by rw [et]; exact HV.out.2.1 _ (getD_mem _ _ HV.out.1)
          have HK := Lib.hid (HV.out.chk (Nat.le_refl _) et)
          have HPB := Lib.hid (fun U (hU : Below V.heap.size V U) => show ParAt U w1.heap.size qt by rw [et]; exact (HV.out.below hU (Nat.le_refl _)).2.2.2.2.2.2.2.1)
          have HET := Lib.hid et
          clear et
          obtain ⟨c0, c1, c2⟩ := HK.out V (Below.refl _ V)
          have HQT := Lib.hid hqt
          clear hqt c0
          obtain ⟨L, hL⟩ : ∃ L, L = d + 1 := ⟨_, rfl⟩
          simp only [← hL]
          have v1 := IntWalk.i64_in ((L : Int) - 1) (by omega)
          have v2 : (0 : Int) ≤ (L : Int) - 1 := by omega
          have v3 : ((L : Int) - 1).toNat = d := by omega
          have v4 : (L : Int) - 1 < (L : Int) := by omega
          have v5 : d < L := by omega
          have v7 : (1 : Int) ≤ (L : Int) := by omega
          have HL := Lib.hid hL
          clear hL
          go_wp2_with fail
          go_region_held3 (fun U => Below V.heap.size V U ∧ U.cell? ⟨S + 1, d, none⟩ = some (.int .u32 qt) ∧ U.cell? ⟨S + 1 + 1, d, none⟩ = some (.int .i64 0))
            (exact HK.out _ (by go_grown))
            (first | (go_at_call 21; refine (zq_any _ _ _ (HPB.out _ (And.left (by assumption))) HQT.out).mono ?_; rintro e w' ⟨rfl, rfl⟩) | (go_at_call 22; refine (zbu_any _ _ _ (HPB.out _ (And.left (by assumption)))).mono ?_; rintro e w' ⟨rfl, rfl⟩) | (go_at_call 20; refine (zh_any _ _ _ (HPB.out _ (And.left (by assumption)))).mono ?_; rintro e w' ⟨rfl, rfl⟩))
          go_wp2_with fail
          go_roundw
          case rel => exact ⟨d, qs, k + 1, by omega, by go_num, rfl, by rw [HL.out], by rw [HL.out], by omega, Lib.hid (HBOT.out), Lib.hid (HV.out.below (by go_grown) (Nat.le_refl _))⟩
          case measure => simp [intOf]; omega
      · go_wp2_with fail
        refine (qo_any op _ hz).mono ?_
        rintro e w2 ⟨⟨q, rfl, hq⟩, rfl⟩
        go_wp2_with fail
        have HQ := Lib.hid hq
        clear hq
        have z1 := HR.out.2.2.2.1
        obtain ⟨q0, eq0⟩ : ∃ q0, q0 = qs.getD d 0 := ⟨_, rfl⟩
        have hP0 := HR.out.2.2.2.2.2.2.2.1
        rw [← eq0] at hP0
        refine (zpre_any w1.heap.size q0 q _ hP0 HQ.out).mono ?_
        rintro e w3 ⟨rfl, hP3, hg3⟩
        have HP3 := Lib.hid hP3
        have HG3 := Lib.hid hg3
        have HE0 := Lib.hid eq0
        have zg := hg3.size
        clear hP3 hg3 eq0 hP0
        have HO1 := Lib.hid (HR.out.2.2.2.2.1.kept HG3.out (ne_some (a := S) rfl (by omega)))
        have HO2 := Lib.hid (HR.out.2.2.2.2.2.1.kept HG3.out (ne_some (a := S + 1) rfl (by omega)))
        have HO3 := Lib.hid (HR.out.2.2.2.2.2.2.1.kept HG3.out (ne_some (a := S + 1 + 1) rfl (by omega)))
        go_wp2_with (first
          | (at_builtin; (refine wpList_append_fits _ rfl _ _ 45 rfl S 51 iS 2 Try.underlying45 HIS.out.1 HIS.out.2 S d n (svL (qs.take d)) rfl (HO1.out.kept (grownOf (by go_grown) none) (.inr (by simp [Value.ownBlock]))) _ 1 1 [.int .u32 q0, .int .i64 0] rfl rfl (by intro j u h; rcases j with _ | _ | j <;> simp at h <;> (try subst h) <;> simp [Addr.add, go_sem]) (by simp [Value.oneCell']) (by omega) ?_); intro w4 hown4 hg4; have H4 := Lib.hid (And.intro hown4 hg4); have zg4 := hg4.size; clear hown4 hg4; simp at zg4)
          | (at_builtin; (refine wpList_append_fits _ rfl _ _ 46 rfl (S + 1) 43 i32 1 Try.underlying46 HI32.out.1 HI32.out.2 (S + 1) (d + 1) (n + 1) (qs.map (Value.int .u32)) rfl (((HO2.out.kept (grownOf (by go_grown) none) (.inr (by simp [Value.ownBlock]))).kept H4.out.2 (ne_some (a := S + 1) rfl (by omega))).kept (grownOf (by go_grown) none) (.inr (by simp [Value.ownBlock]))) _ 1 1 [.int .u32 q] rfl rfl (by intro j u h; rcases j with _ | j <;> simp at h <;> (try subst h) <;> simp [Addr.add, go_sem]) (by simp [Value.oneCell']) (by omega) ?_); intro w5 hown5 hg5; have H5 := Lib.hid (And.intro hown5 hg5); have zg5 := hg5.size; clear hown5 hg5; simp at zg5)
          | (at_builtin; (refine wpList_append_fits _ rfl _ _ 47 rfl (S + 1 + 1) 3 iI 1 Try.underlying47 HII.out.1 HII.out.2 (S + 1 + 1) (d + 1) (n + 1) (List.replicate (d + 1) (.int .i64 0)) rfl (((((HO3.out.kept (grownOf (by go_grown) none) (.inr (by simp [Value.ownBlock]))).kept H4.out.2 (ne_some (a := S + 1 + 1) rfl (by omega))).kept (grownOf (by go_grown) none) (.inr (by simp [Value.ownBlock]))).kept H5.out.2 (ne_some (a := S + 1 + 1) rfl (by omega))).kept (grownOf (by go_grown) none) (.inr (by simp [Value.ownBlock]))) _ 1 1 [.int .i64 0] rfl rfl (by intro j u h; rcases j with _ | j <;> simp at h <;> (try subst h) <;> simp [Addr.add, go_sem]) (by simp [Value.oneCell']) (by omega) ?_); intro w6 hown6 hg6; have H6 := Lib.hid (And.intro hown6 hg6); have zg6 := hg6.size; clear hown6 hg6; simp at zg6))
        refine wp_gen (fun V => PN S (S + 1) (S + 1 + 1) w1.heap.size n w1 (d + 1) (qs ++ [q]) V) ?_ ?_
        · have e0 : svL (qs.take d) ++ [.int .u32 q0, .int .i64 0] = svL ((qs ++ [q]).take (d + 1)) := by
            rw [← svL_snoc, HE0.out, take_last qs d HR.out.1, List.take_append_of_le_length (by rw [HR.out.1]; omega), List.take_of_length_le (by rw [HR.out.1]; omega)]
          have b3 : Below w1.heap.size w1 w3 := HR.out.2.2.2.2.2.2.2.2.grown HG3.out (by omega) (by intro k e; cases e; omega)
          have b4 := ((b3.alloc (by omega) _).alloc (by simp; omega) _).grown H4.out.2 (by simp; omega) (by intro k e; cases e; omega)
          have b5 := (b4.alloc (by omega) _).grown H5.out.2 (by simp; omega) (by intro k e; cases e; omega)
          have b6 := (b5.alloc (by omega) _).grown H6.out.2 (by simp; omega) (by intro k e; cases e; omega)
          refine ⟨by simp [HR.out.1], ?_, by omega, ⟨by omega, by omega, by omega, by omega⟩, ?_, ?_, ?_, ?_, b6⟩
          · intro x hx
            rcases List.mem_append.1 hx with h | h
            · exact HR.out.2.1 x h
            · simp at h; subst h; exact HQ.out
          · rw [← e0]; exact (((H4.out.1.alloc _).kept H5.out.2 (ne_some (a := S) rfl (by omega))).alloc _).kept H6.out.2 (ne_some (a := S) rfl (by omega))
          · rw [List.map_append]; exact (H5.out.1.alloc _).kept H6.out.2 (ne_some (a := S + 1) rfl (by omega))
          · rw [List.replicate_succ']; exact H6.out.1
          · rw [getD_last qs d q HR.out.1]
            exact ((((((HP3.out.alloc _).alloc _).grown H4.out.2 (fun e => absurd (Option.some.inj e) (by omega))).alloc _).grown H5.out.2 (fun e => absurd (Option.some.inj e) (by omega))).alloc _).grown H6.out.2 (fun e => absurd (Option.some.inj e) (by omega))
        intro V hV
        have HV := Lib.hid hV
        have HLEN := Lib.hid HR.out.1
        clear hV HO1 HO2 HO3 H4 H5 H6 HP3 HG3 HE0 zg zg4 zg5 zg6 r0 zr HR z1
        have zt := HV.out.2.2.2.1
        obtain ⟨qt, et⟩ : ∃ qt, qt = (qs ++ [q]).getD (d + 1) 0 := ⟨_, rfl⟩
        have hqt : 0 ≤ qt ∧ qt ≤ 4294967295 := by rw [et]; exact HV.out.2.1 _ (getD_mem _ _ HV.out.1)
        have HK := Lib.hid (HV.out.chk (Nat.le_refl _) et)
        have HPB := Lib.hid (fun U (hU : Below V.heap.size V U) => show ParAt U w1.heap.size qt by rw [et]; exact (HV.out.below hU (Nat.le_refl _)).2.2.2.2.2.2.2.1)
        have HET := Lib.hid et
        clear et
        obtain ⟨c0, c1, c2⟩ := HK.out V (Below.refl _ V)
        have HQT := Lib.hid hqt
        clear hqt c0
        obtain ⟨L, hL⟩ : ∃ L, L = (d + 1) + 1 := ⟨_, rfl⟩
        simp only [← hL]
        have v1 := IntWalk.i64_in ((L : Int) - 1) (by omega)
        have v2 : (0 : Int) ≤ (L : Int) - 1 := by omega
        have v3 : ((L : Int) - 1).toNat = (d + 1) := by omega
        have v4 : (L : Int) - 1 < (L : Int) := by omega
        have v5 : (d + 1) < L := by omega
        have v7 : (1 : Int) ≤ (L : Int) := by omega
        have HL := Lib.hid hL
        clear hL
        go_wp2_with fail
        go_region_held3 (fun U => Below V.heap.size V U ∧ U.cell? ⟨S + 1, (d + 1), none⟩ = some (.int .u32 qt) ∧ U.cell? ⟨S + 1 + 1, (d + 1), none⟩ = some (.int .i64 0))
          (exact HK.out _ (by go_grown))
          (first | (go_at_call 21; refine (zq_any _ _ _ (HPB.out _ (And.left (by assumption))) HQT.out).mono ?_; rintro e w' ⟨rfl, rfl⟩) | (go_at_call 22; refine (zbu_any _ _ _ (HPB.out _ (And.left (by assumption)))).mono ?_; rintro e w' ⟨rfl, rfl⟩) | (go_at_call 20; refine (zh_any _ _ _ (HPB.out _ (And.left (by assumption)))).mono ?_; rintro e w' ⟨rfl, rfl⟩))
        go_wp2_with fail
        go_roundw
        case rel => exact ⟨(d + 1), (qs ++ [q]), k + 1, by omega, by go_num, rfl, by rw [HL.out], by rw [HL.out], by omega, Lib.hid (HBOT.out.push HLEN.out), Lib.hid (HV.out.below (by go_grown) (Nat.le_refl _))⟩
        case measure => simp [intOf]; omega
    · obtain rfl : k = n := by omega
      clear hlt
      have HR1 := Lib.hid (And.intro HBOT.out HR.out)
      clear HR HBOT
      go_wp2_with fail
      go_loopw [7] (fun sv wr => ∃ d : Nat, ∃ qs : List Int, sv = .slice (some ⟨S, 0, none⟩) d k ∧ d ≤ k ∧ Hid (Bot qs ∧ PN S (S + 1) (S + 1 + 1) w1.heap.size k w1 d qs wr)) (fun sv _ => lenOf sv)
      case atStart => exact ⟨d, qs, rfl, hdk, HR1⟩
      case round =>
        clear HR1
        obtain ⟨d, qs, rfl, hdk, HR1⟩ := hrel
        have HR := Lib.hid HR1.out.2
        have HBOT := Lib.hid HR1.out.1
        clear HR1
        by_cases hd : 0 < d
        · have z1 := HR.out.2.2.2.1
          obtain ⟨r, er⟩ : ∃ r, r = qs.getD (d - 1) 0 := ⟨_, rfl⟩
          obtain ⟨q0, eq0⟩ : ∃ q0, q0 = qs.getD d 0 := ⟨_, rfl⟩
          have hP0 := HR.out.2.2.2.2.2.2.2.1
          rw [← eq0] at hP0
          have HP0 := Lib.hid hP0
          obtain ⟨s0, s1⟩ := PN.top HR.out hd
          rw [← er] at s0
          have v2 : (0 : Int) ≤ (d : Int) - 1 := by omega
          have v3 : ((d : Int) - 1).toNat = d - 1 := by omega
          have v4 : (d : Int) - 1 < (d : Int) := by omega
          have v5 : d - 1 < d := by omega
          have v7 : (1 : Int) ≤ (d : Int) := by omega
          have v1 := IntWalk.i64_in ((d : Int) - 1) (by omega)
          have HER := Lib.hid er
          clear hP0 eq0 er
          go_wp2_with fail
          refine (zpost_any w1.heap.size q0 r _ (by first | exact HP0.out | exact HP0.out.alloc _ | exact (HP0.out.alloc _).alloc _)).mono ?_
          rintro e w3 ⟨rfl, hP3, hg3⟩
          have HP3 := Lib.hid hP3
          have HG3 := Lib.hid hg3
          have zg := hg3.size
          simp at zg
          clear hP3 hg3
          go_wp2_with fail
          exact ⟨⟨d - 1, qs.take d, rfl, by omega, Lib.hid (And.intro (HBOT.out.pop hd) (HR.out.pop hd (Nat.le_refl _) HG3.out (by rw [← HER.out]; exact HP3.out)))⟩, by simp [lenOf]; omega⟩
        · obtain rfl : d = 0 := by omega
          clear hd
          have hP0 := HR.out.2.2.2.2.2.2.2.1
          rw [show qs.getD 0 0 = 0 from HBOT.out] at hP0
          have HP0 := Lib.hid hP0
          clear hP0
          go_wp2_with (first | (go_at_call 20; (refine (zh_any _ _ _ HP0.out).mono ?_); rintro e w' ⟨rfl, rfl⟩) | (go_at_call 21; (refine (zq_any _ _ _ HP0.out (by omega)).mono ?_); rintro e w' ⟨rfl, rfl⟩) | (go_at_call 22; (refine (zbu_any _ _ _ HP0.out).mono ?_); rintro e w' ⟨rfl, rfl⟩))
          have hfin := below_next H1.out HR.out.2.2.2.2.2.2.2.2
          first | exact bodyPost_ret (v := .bool true) (by simp [results, Try.results5, go_sem]) rfl ⟨rfl, hfin⟩ | (go_ret; exact ⟨rfl, hfin⟩)
set_option maxRecDepth 100000 in
set_option maxHeartbeats 4000000 in
theorem x1 (a0 : Option Addr) (len0 cap0 : Nat) (w : World) (h : 1048576 < len0) : Calls Try.prog 5 #[.slice a0 len0 cap0] w fun e w' => e = .returned (.bool true) ∧ Below w.heap.size w w' := by
  have k : (1048576 : Int) < (len0 : Int) := by omega
  go_enter Try.func5, Try.ntmps5
  go_wp2_with (go_at_call 19; go_in)
  go_ret
  exact ⟨rfl, by go_grown⟩
set_option maxRecDepth 100000 in
set_option maxHeartbeats 4000000 in
theorem x2 (a0 : Option Addr) (len0 cap0 : Nat) (w : World) (h1 : len0 ≤ 1048576) (h : 65536 < len0) : Calls Try.prog 5 #[.slice a0 len0 cap0] w fun e w' => e = .returned (.bool true) ∧ Below w.heap.size w w' := by
  have k1 : (len0 : Int) ≤ (1048576 : Int) := by omega
  have k : (65536 : Int) < (len0 : Int) := by omega
  go_enter Try.func5, Try.ntmps5
  go_wp2_with (go_at_call 19; go_in)
  go_ret
  exact ⟨rfl, by go_grown⟩
theorem walk (a0 : Option Addr) (len0 cap0 : Nat) (z0 : List Int) (w : World) (w0 : IsRow .u8 w a0 len0 cap0 z0) :
    Calls Try.prog 5 #[.slice a0 len0 cap0] w fun e w' => e = .returned (.bool true) ∧ Below w.heap.size w w' := by
  by_cases k1 : 1048576 < len0
  · exact x1 a0 len0 cap0 w k1
  by_cases k2 : 65536 < len0
  · exact x2 a0 len0 cap0 w (by omega) k2
  exact main none len0 (fun _ => 0) a0 len0 cap0 z0 w w0 (by omega)
end Go.Proofs.Ytdmmpgeaendjpaa.fnPostNestedScript
