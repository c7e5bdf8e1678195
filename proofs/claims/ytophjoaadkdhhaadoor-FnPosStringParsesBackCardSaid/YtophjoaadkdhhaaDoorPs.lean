/- Pos.String: the text of a position. Conditions: raw fields that fit; the table of powers of ten. -/
import Derived.Test.YtophjoaadkdhhaaDoorPos
import Derived.Test.YtophjoaadkdhhaaDoorFu
import Derived.Test.YtophjoaadkdhhaaDoorBw
import Derived.Test.YtophjoaadkdhhaaDoorDig
namespace Go.Proofs.YtophjoaadkdhhaaDoor
open Go.RowKit Go.Lib
set_option linter.unusedVariables false
set_option linter.unusedSimpArgs false

theorem tab_below {P : Program} {w w' : World} {name : String} {k : IntKind} {zs : List Int} (h : Lib.TabIs P w name k zs) (hb : Below w.heap.size w w') : Lib.TabIs P w' name k zs := by
  unfold Lib.TabIs World.var? at *
  cases hg : P.globalNamed name with
  | none => simp [hg] at h
  | some g =>
    simp only [hg, Option.bind_some] at h ⊢
    have hlt : g < w.heap.size := by
      rcases Nat.lt_or_ge g w.heap.size with h' | h'
      · exact h'
      · rw [Array.getElem?_eq_none h'] at h; simp at h
    rw [hb.block g hlt]
    exact h

theorem bat_below {T e : TypeId} {B b : Nat} {p : Value} {bs : List Value} {w w' : World} (h : Lib.BuilderAt T e B b p bs w) (hb : Below w.heap.size w w') : Lib.BuilderAt T e B b p bs w' := by
  have hlt := h.lt
  obtain ⟨hB, v, hbk, hown, hne⟩ := h
  refine ⟨hB, v, by rw [hb.block b hlt]; exact hbk, hown.kept (row := some b) ⟨hb.os, hb.tape, hb.output, hb.size, fun k hk _ => hb.block k hk⟩ (Or.inr hne), hne⟩
theorem isb_below {T e : TypeId} {B b : Nat} {bs : List Value} {w w' : World} (h : Lib.IsBuilder T e B b bs w) (hb : Below w.heap.size w w') : Lib.IsBuilder T e B b bs w' :=
  h.imp (bat_below · hb) (bat_below · hb)

/-- Between the writes: the builder (block size + 1) holds bs; the position lies in block size. -/
structure St (w : World) (o lc : Int) (bs : List UInt8) (W : World) : Prop where
  below : Below w.heap.size w W
  c0 : W.cell? ⟨w.heap.size, 0, none⟩ = some (.int .u32 o)
  c1 : W.cell? ⟨w.heap.size, 1, none⟩ = some (.int .u32 lc)
  lt : w.heap.size + 1 < W.heap.size
  ib : Lib.IsBuilder 35 5 (w.heap.size + 1) (w.heap.size + 1) (Lib.byteCells bs) W
  tab : Lib.TabIs Tryd.prog W "internal/strconv.uint64pow10" .u64 Lib.pow10Tab
theorem St.le {w W : World} {o lc : Int} {bs : List UInt8} (h : St w o lc bs W) : w.heap.size + 1 ≤ W.heap.size := Nat.le_of_lt h.lt
theorem St.next {w W W' : World} {o lc : Int} {bs : List UInt8} (h : St w o lc bs W) (hb : Below W.heap.size W W') : St w o lc bs W' :=
  ⟨h.below.trans (hb.mono (by have := h.lt; omega)), by rw [hb.cell (p := ⟨w.heap.size, 0, none⟩) (by have := h.lt; simp; omega)]; exact h.c0, by rw [hb.cell (p := ⟨w.heap.size, 1, none⟩) (by have := h.lt; simp; omega)]; exact h.c1, Nat.lt_of_lt_of_le h.lt hb.size, isb_below h.ib hb, tab_below h.tab hb⟩
theorem St.write {w W W' : World} {o lc : Int} {bs bs' : List UInt8} (h : St w o lc bs W) (hi : Lib.BuilderAt 35 5 (w.heap.size + 1) (w.heap.size + 1) (.pointer (some ⟨w.heap.size + 1, 0, none⟩)) (Lib.byteCells bs') W') (hb : Below (w.heap.size + 1) W W') (hT : Lib.TabIs Tryd.prog w "internal/strconv.uint64pow10" .u64 Lib.pow10Tab) : St w o lc bs' W' :=
  have hB : Below w.heap.size w W' := h.below.trans (hb.mono (by omega))
  ⟨hB, by rw [hb.cell (p := ⟨w.heap.size, 0, none⟩) (by simp)]; exact h.c0, by rw [hb.cell (p := ⟨w.heap.size, 1, none⟩) (by simp)]; exact h.c1, Nat.lt_of_lt_of_le h.lt hb.size, Or.inr hi, tab_below hT hB⟩
theorem St.start (w : World) (o lc : Int) (hT : Lib.TabIs Tryd.prog w "internal/strconv.uint64pow10" .u64 Lib.pow10Tab) : St w o lc [] ((w.alloc (.cells #[.int .u32 o, .int .u32 lc] 25)).alloc (.cells #[.pointer none, .slice none 0 0] 35)) := by
  have hB : Below w.heap.size w ((w.alloc (.cells #[.int .u32 o, .int .u32 lc] 25)).alloc (.cells #[.pointer none, .slice none 0 0] 35)) := by go_grown
  have hf := Lib.fresh_isBuilder 35 5 (w.alloc (.cells #[.int .u32 o, .int .u32 lc] 25))
  simp only [World.size_alloc] at hf
  refine ⟨hB, ?_, ?_, ?_, hf, tab_below hT hB⟩
  · exact (World.cell?_alloc_past _ _ _ (by simp)).trans (World.cell?_alloc_new _ _ _ _)
  · exact (World.cell?_alloc_past _ _ _ (by simp)).trans (World.cell?_alloc_new _ _ _ _)
  · simp
theorem St.fin {w W W' : World} {o lc : Int} {bs : List UInt8} (h : St w o lc bs W) (hb : Below (w.heap.size + 1) W W') : Below w.heap.size w W' := h.below.trans (hb.mono (by omega))
theorem small_ok (l : List UInt8) (h : l.length ≤ 30) : (Lib.byteCells l).length + 1 ≤ 140737488355328 := by rw [Lib.byteCells_length]; omega
theorem len_ok (l : List UInt8) (h : l.length ≤ 30) (u : Nat) (hu : u < 262144) : (Lib.byteCells l).length + (⟨(Lib.decDigits u).toArray⟩ : ByteArray).size ≤ 140737488355328 := by
  have := len_dec u hu
  rw [Lib.byteCells_length]
  show l.length + (Lib.decDigits u).toArray.size ≤ _
  simp
  omega

theorem below_grow0 (w : World) (k : Nat) (os : Array Obj) : Below w.heap.size w (Go.Sort.grow (w.drewN k) os) := by
  refine ⟨rfl, rfl, rfl, by simp [Go.Sort.grow, World.drewN], fun i hi => ?_⟩
  simp only [Go.Sort.grow, World.drewN]
  exact Array.getElem?_append_left hi
theorem sfu_bel (u : Nat) (h0 : 1 ≤ u) (h1 : u < 18446744073709551616) (w : World) (htab : Lib.TabIs Tryd.prog w "internal/strconv.uint64pow10" .u64 Lib.pow10Tab) :
    Calls Tryd.prog 10 #[.int .u64 u, .int .i64 10] w fun e w' => e = .returned (.string ⟨(Lib.decDigits u).toArray⟩) ∧ Below w.heap.size w w' :=
  (sfu_any u h0 h1 w htab).mono fun _ _ ⟨he, k, os, hg⟩ => ⟨he, by rw [hg]; exact below_grow0 _ _ _⟩


set_option maxHeartbeats 1000000 in
theorem pstr_11 (o lc : Int) (w : World) (hl : 0 ≤ lc ∧ lc ≤ 4294967295) (hT : Lib.TabIs Tryd.prog w "internal/strconv.uint64pow10" .u64 Lib.pow10Tab) (h1 : 0 < lineOf lc) (h2 : 0 < colOf lc) :
    Calls Tryd.prog 5 #[.agg #[.int .u32 o, .int .u32 lc]] w fun e w' => e = .returned (.string ⟨(posL (lineOf lc).toNat (colOf lc).toNat).toArray⟩) ∧ Below w.heap.size w w' := by
  have lb : 0 ≤ lineOf lc ∧ lineOf lc ≤ 262143 := by unfold lineOf; omega
  have cb : 0 ≤ colOf lc ∧ colOf lc ≤ 16383 := by unfold colOf; omega
  obtain ⟨u, hu⟩ : ∃ u : Nat, lineOf lc = u := ⟨(lineOf lc).toNat, by omega⟩
  obtain ⟨v, hv⟩ : ∃ v : Nat, colOf lc = v := ⟨(colOf lc).toNat, by omega⟩
  rw [hu] at lb h1
  rw [hv] at cb h2
  have hlu := len_dec u (by omega)
  have hlv := len_dec v (by omega)
  have h00 := St.start w o lc hT
  go_enter Tryd.func5, Tryd.ntmps5
  go_wp2_with fail
  refine (line_any _ _ _ hl).mono ?_
  rintro e w1 ⟨rfl, hb1⟩
  rw [hu]
  have h10 := h00.next hb1
  clear hb1
  have a1 := h10.c0; have b1 := h10.c1; have z1 := h10.lt
  go_wp2_with fail
  refine (sfu_bel u (by omega) (by omega) _ h10.tab).mono ?_
  rintro e w2 ⟨rfl, hb2⟩
  have h20 := h10.next hb2
  clear hb2
  have a2 := h20.c0; have b2 := h20.c1; have z2 := h20.lt
  go_wp2_with fail
  refine (ws_any _ _ _ _ _ h20.ib (len_ok _ (by simp only [List.length_append, List.length_cons, List.length_nil]; omega) u (by omega)) h20.le).mono ?_
  rintro e w3 ⟨rfl, hi3, hb3⟩
  have h30 := h20.write (bs' := [] ++ Lib.decDigits u) (by rw [Lib.byteCells_append]; exact hi3) hb3 hT
  clear hi3 hb3
  have a3 := h30.c0; have b3 := h30.c1; have z3 := h30.lt
  go_wp2_with fail
  refine (wb_any _ _ _ _ _ h30.ib (small_ok _ (by simp only [List.length_append, List.length_cons, List.length_nil]; omega)) h30.le).mono ?_
  rintro e w4 ⟨rfl, hi4, hb4⟩
  have h40 := h30.write (bs' := ([] ++ Lib.decDigits u) ++ [58]) (by rw [Lib.byteCells_append]; exact hi4) hb4 hT
  clear hi4 hb4
  have a4 := h40.c0; have b4 := h40.c1; have z4 := h40.lt
  go_wp2_with fail
  refine (col_any _ _ _ hl).mono ?_
  rintro e w5 ⟨rfl, hb5⟩
  rw [hv]
  have h50 := h40.next hb5
  clear hb5
  have a5 := h50.c0; have b5 := h50.c1; have z5 := h50.lt
  go_wp2_with fail
  refine (sfu_bel v (by omega) (by omega) _ h50.tab).mono ?_
  rintro e w6 ⟨rfl, hb6⟩
  have h60 := h50.next hb6
  clear hb6
  have a6 := h60.c0; have b6 := h60.c1; have z6 := h60.lt
  go_wp2_with fail
  refine (ws_any _ _ _ _ _ h60.ib (len_ok _ (by simp only [List.length_append, List.length_cons, List.length_nil]; omega) v (by omega)) h60.le).mono ?_
  rintro e w7 ⟨rfl, hi7, hb7⟩
  have h70 := h60.write (bs' := (([] ++ Lib.decDigits u) ++ [58]) ++ Lib.decDigits v) (by rw [Lib.byteCells_append]; exact hi7) hb7 hT
  clear hi7 hb7
  have a7 := h70.c0; have b7 := h70.c1; have z7 := h70.lt
  go_wp2_with fail
  refine (Tryd.Builder_String_any _ _ _ _ h70.ib h70.le).mono ?_
  rintro e w' ⟨rfl, hb⟩
  have hfin := h70.fin hb
  go_wp2_with fail
  go_ret
  refine ⟨?_, hfin⟩
  rw [hu, hv]
  have hu0 : ¬ u = 0 := by omega
  have hv0 : ¬ v = 0 := by omega
  simp [posL, fieldB, hu0, hv0]
set_option maxHeartbeats 1000000 in
theorem pstr_10 (o lc : Int) (w : World) (hl : 0 ≤ lc ∧ lc ≤ 4294967295) (hT : Lib.TabIs Tryd.prog w "internal/strconv.uint64pow10" .u64 Lib.pow10Tab) (h1 : 0 < lineOf lc) (h2 : ¬ 0 < colOf lc) :
    Calls Tryd.prog 5 #[.agg #[.int .u32 o, .int .u32 lc]] w fun e w' => e = .returned (.string ⟨(posL (lineOf lc).toNat (colOf lc).toNat).toArray⟩) ∧ Below w.heap.size w w' := by
  have lb : 0 ≤ lineOf lc ∧ lineOf lc ≤ 262143 := by unfold lineOf; omega
  have cb : 0 ≤ colOf lc ∧ colOf lc ≤ 16383 := by unfold colOf; omega
  obtain ⟨u, hu⟩ : ∃ u : Nat, lineOf lc = u := ⟨(lineOf lc).toNat, by omega⟩
  obtain ⟨v, hv⟩ : ∃ v : Nat, colOf lc = v := ⟨(colOf lc).toNat, by omega⟩
  rw [hu] at lb h1
  rw [hv] at cb h2
  have hlu := len_dec u (by omega)
  have hlv := len_dec v (by omega)
  have h00 := St.start w o lc hT
  go_enter Tryd.func5, Tryd.ntmps5
  go_wp2_with fail
  refine (line_any _ _ _ hl).mono ?_
  rintro e w1 ⟨rfl, hb1⟩
  rw [hu]
  have h10 := h00.next hb1
  clear hb1
  have a1 := h10.c0; have b1 := h10.c1; have z1 := h10.lt
  go_wp2_with fail
  refine (sfu_bel u (by omega) (by omega) _ h10.tab).mono ?_
  rintro e w2 ⟨rfl, hb2⟩
  have h20 := h10.next hb2
  clear hb2
  have a2 := h20.c0; have b2 := h20.c1; have z2 := h20.lt
  go_wp2_with fail
  refine (ws_any _ _ _ _ _ h20.ib (len_ok _ (by simp only [List.length_append, List.length_cons, List.length_nil]; omega) u (by omega)) h20.le).mono ?_
  rintro e w3 ⟨rfl, hi3, hb3⟩
  have h30 := h20.write (bs' := [] ++ Lib.decDigits u) (by rw [Lib.byteCells_append]; exact hi3) hb3 hT
  clear hi3 hb3
  have a3 := h30.c0; have b3 := h30.c1; have z3 := h30.lt
  go_wp2_with fail
  refine (wb_any _ _ _ _ _ h30.ib (small_ok _ (by simp only [List.length_append, List.length_cons, List.length_nil]; omega)) h30.le).mono ?_
  rintro e w4 ⟨rfl, hi4, hb4⟩
  have h40 := h30.write (bs' := ([] ++ Lib.decDigits u) ++ [58]) (by rw [Lib.byteCells_append]; exact hi4) hb4 hT
  clear hi4 hb4
  have a4 := h40.c0; have b4 := h40.c1; have z4 := h40.lt
  go_wp2_with fail
  refine (col_any _ _ _ hl).mono ?_
  rintro e w5 ⟨rfl, hb5⟩
  rw [hv]
  have h50 := h40.next hb5
  clear hb5
  have a5 := h50.c0; have b5 := h50.c1; have z5 := h50.lt
  go_wp2_with fail
  refine (wb_any _ _ _ _ _ h50.ib (small_ok _ (by simp only [List.length_append, List.length_cons, List.length_nil]; omega)) h50.le).mono ?_
  rintro e w6 ⟨rfl, hi6, hb6⟩
  have h60 := h50.write (bs' := (([] ++ Lib.decDigits u) ++ [58]) ++ [63]) (by rw [Lib.byteCells_append]; exact hi6) hb6 hT
  clear hi6 hb6
  have a6 := h60.c0; have b6 := h60.c1; have z6 := h60.lt
  go_wp2_with fail
  refine (Tryd.Builder_String_any _ _ _ _ h60.ib h60.le).mono ?_
  rintro e w' ⟨rfl, hb⟩
  have hfin := h60.fin hb
  go_wp2_with fail
  go_ret
  refine ⟨?_, hfin⟩
  rw [hu, hv]
  have hu0 : ¬ u = 0 := by omega
  have hv0 : v = 0 := by omega
  simp [posL, fieldB, hu0, hv0]
set_option maxHeartbeats 1000000 in
theorem pstr_01 (o lc : Int) (w : World) (hl : 0 ≤ lc ∧ lc ≤ 4294967295) (hT : Lib.TabIs Tryd.prog w "internal/strconv.uint64pow10" .u64 Lib.pow10Tab) (h1 : ¬ 0 < lineOf lc) (h2 : 0 < colOf lc) :
    Calls Tryd.prog 5 #[.agg #[.int .u32 o, .int .u32 lc]] w fun e w' => e = .returned (.string ⟨(posL (lineOf lc).toNat (colOf lc).toNat).toArray⟩) ∧ Below w.heap.size w w' := by
  have lb : 0 ≤ lineOf lc ∧ lineOf lc ≤ 262143 := by unfold lineOf; omega
  have cb : 0 ≤ colOf lc ∧ colOf lc ≤ 16383 := by unfold colOf; omega
  obtain ⟨u, hu⟩ : ∃ u : Nat, lineOf lc = u := ⟨(lineOf lc).toNat, by omega⟩
  obtain ⟨v, hv⟩ : ∃ v : Nat, colOf lc = v := ⟨(colOf lc).toNat, by omega⟩
  rw [hu] at lb h1
  rw [hv] at cb h2
  have hlu := len_dec u (by omega)
  have hlv := len_dec v (by omega)
  have h00 := St.start w o lc hT
  go_enter Tryd.func5, Tryd.ntmps5
  go_wp2_with fail
  refine (line_any _ _ _ hl).mono ?_
  rintro e w1 ⟨rfl, hb1⟩
  rw [hu]
  have h10 := h00.next hb1
  clear hb1
  have a1 := h10.c0; have b1 := h10.c1; have z1 := h10.lt
  go_wp2_with fail
  refine (wb_any _ _ _ _ _ h10.ib (small_ok _ (by simp only [List.length_append, List.length_cons, List.length_nil]; omega)) h10.le).mono ?_
  rintro e w2 ⟨rfl, hi2, hb2⟩
  have h20 := h10.write (bs' := [] ++ [63]) (by rw [Lib.byteCells_append]; exact hi2) hb2 hT
  clear hi2 hb2
  have a2 := h20.c0; have b2 := h20.c1; have z2 := h20.lt
  go_wp2_with fail
  refine (wb_any _ _ _ _ _ h20.ib (small_ok _ (by simp only [List.length_append, List.length_cons, List.length_nil]; omega)) h20.le).mono ?_
  rintro e w3 ⟨rfl, hi3, hb3⟩
  have h30 := h20.write (bs' := ([] ++ [63]) ++ [58]) (by rw [Lib.byteCells_append]; exact hi3) hb3 hT
  clear hi3 hb3
  have a3 := h30.c0; have b3 := h30.c1; have z3 := h30.lt
  go_wp2_with fail
  refine (col_any _ _ _ hl).mono ?_
  rintro e w4 ⟨rfl, hb4⟩
  rw [hv]
  have h40 := h30.next hb4
  clear hb4
  have a4 := h40.c0; have b4 := h40.c1; have z4 := h40.lt
  go_wp2_with fail
  refine (sfu_bel v (by omega) (by omega) _ h40.tab).mono ?_
  rintro e w5 ⟨rfl, hb5⟩
  have h50 := h40.next hb5
  clear hb5
  have a5 := h50.c0; have b5 := h50.c1; have z5 := h50.lt
  go_wp2_with fail
  refine (ws_any _ _ _ _ _ h50.ib (len_ok _ (by simp only [List.length_append, List.length_cons, List.length_nil]; omega) v (by omega)) h50.le).mono ?_
  rintro e w6 ⟨rfl, hi6, hb6⟩
  have h60 := h50.write (bs' := (([] ++ [63]) ++ [58]) ++ Lib.decDigits v) (by rw [Lib.byteCells_append]; exact hi6) hb6 hT
  clear hi6 hb6
  have a6 := h60.c0; have b6 := h60.c1; have z6 := h60.lt
  go_wp2_with fail
  refine (Tryd.Builder_String_any _ _ _ _ h60.ib h60.le).mono ?_
  rintro e w' ⟨rfl, hb⟩
  have hfin := h60.fin hb
  go_wp2_with fail
  go_ret
  refine ⟨?_, hfin⟩
  rw [hu, hv]
  have hu0 : u = 0 := by omega
  have hv0 : ¬ v = 0 := by omega
  simp [posL, fieldB, hu0, hv0]
set_option maxHeartbeats 1000000 in
theorem pstr_00 (o lc : Int) (w : World) (hl : 0 ≤ lc ∧ lc ≤ 4294967295) (hT : Lib.TabIs Tryd.prog w "internal/strconv.uint64pow10" .u64 Lib.pow10Tab) (h1 : ¬ 0 < lineOf lc) (h2 : ¬ 0 < colOf lc) :
    Calls Tryd.prog 5 #[.agg #[.int .u32 o, .int .u32 lc]] w fun e w' => e = .returned (.string ⟨(posL (lineOf lc).toNat (colOf lc).toNat).toArray⟩) ∧ Below w.heap.size w w' := by
  have lb : 0 ≤ lineOf lc ∧ lineOf lc ≤ 262143 := by unfold lineOf; omega
  have cb : 0 ≤ colOf lc ∧ colOf lc ≤ 16383 := by unfold colOf; omega
  obtain ⟨u, hu⟩ : ∃ u : Nat, lineOf lc = u := ⟨(lineOf lc).toNat, by omega⟩
  obtain ⟨v, hv⟩ : ∃ v : Nat, colOf lc = v := ⟨(colOf lc).toNat, by omega⟩
  rw [hu] at lb h1
  rw [hv] at cb h2
  have hlu := len_dec u (by omega)
  have hlv := len_dec v (by omega)
  have h00 := St.start w o lc hT
  go_enter Tryd.func5, Tryd.ntmps5
  go_wp2_with fail
  refine (line_any _ _ _ hl).mono ?_
  rintro e w1 ⟨rfl, hb1⟩
  rw [hu]
  have h10 := h00.next hb1
  clear hb1
  have a1 := h10.c0; have b1 := h10.c1; have z1 := h10.lt
  go_wp2_with fail
  refine (wb_any _ _ _ _ _ h10.ib (small_ok _ (by simp only [List.length_append, List.length_cons, List.length_nil]; omega)) h10.le).mono ?_
  rintro e w2 ⟨rfl, hi2, hb2⟩
  have h20 := h10.write (bs' := [] ++ [63]) (by rw [Lib.byteCells_append]; exact hi2) hb2 hT
  clear hi2 hb2
  have a2 := h20.c0; have b2 := h20.c1; have z2 := h20.lt
  go_wp2_with fail
  refine (wb_any _ _ _ _ _ h20.ib (small_ok _ (by simp only [List.length_append, List.length_cons, List.length_nil]; omega)) h20.le).mono ?_
  rintro e w3 ⟨rfl, hi3, hb3⟩
  have h30 := h20.write (bs' := ([] ++ [63]) ++ [58]) (by rw [Lib.byteCells_append]; exact hi3) hb3 hT
  clear hi3 hb3
  have a3 := h30.c0; have b3 := h30.c1; have z3 := h30.lt
  go_wp2_with fail
  refine (col_any _ _ _ hl).mono ?_
  rintro e w4 ⟨rfl, hb4⟩
  rw [hv]
  have h40 := h30.next hb4
  clear hb4
  have a4 := h40.c0; have b4 := h40.c1; have z4 := h40.lt
  go_wp2_with fail
  refine (wb_any _ _ _ _ _ h40.ib (small_ok _ (by simp only [List.length_append, List.length_cons, List.length_nil]; omega)) h40.le).mono ?_
  rintro e w5 ⟨rfl, hi5, hb5⟩
  have h50 := h40.write (bs' := (([] ++ [63]) ++ [58]) ++ [63]) (by rw [Lib.byteCells_append]; exact hi5) hb5 hT
  clear hi5 hb5
  have a5 := h50.c0; have b5 := h50.c1; have z5 := h50.lt
  go_wp2_with fail
  refine (Tryd.Builder_String_any _ _ _ _ h50.ib h50.le).mono ?_
  rintro e w' ⟨rfl, hb⟩
  have hfin := h50.fin hb
  go_wp2_with fail
  go_ret
  refine ⟨?_, hfin⟩
  rw [hu, hv]
  have hu0 : u = 0 := by omega
  have hv0 : v = 0 := by omega
  simp [posL, fieldB, hu0, hv0]
set_option maxHeartbeats 400000 in
theorem pstr_any (o lc : Int) (w : World) (hl : 0 ≤ lc ∧ lc ≤ 4294967295) (hT : Lib.TabIs Tryd.prog w "internal/strconv.uint64pow10" .u64 Lib.pow10Tab) :
    Calls Tryd.prog 5 #[.agg #[.int .u32 o, .int .u32 lc]] w fun e w' => e = .returned (.string ⟨(posL (lineOf lc).toNat (colOf lc).toNat).toArray⟩) ∧ Below w.heap.size w w' := by
  by_cases h1 : 0 < lineOf lc
  · by_cases h2 : 0 < colOf lc
    · exact pstr_11 o lc w hl hT h1 h2
    · exact pstr_10 o lc w hl hT h1 h2
  · by_cases h2 : 0 < colOf lc
    · exact pstr_01 o lc w hl hT h1 h2
    · exact pstr_00 o lc w hl hT h1 h2
end Go.Proofs.YtophjoaadkdhhaaDoor
