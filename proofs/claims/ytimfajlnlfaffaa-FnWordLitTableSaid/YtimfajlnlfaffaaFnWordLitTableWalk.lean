/- The walk of FnWordLitTable: the Go text returns true. Conditions: none. -/
import Derived.Test.YtimfajlnlfaffaaBuildW
import Derived.Test.YtimfajlnlfaffaaShelf
import Derived.Laws.IdiomStrings
import Derived.Lib.Join
import Derived.Deep.AppendLies
namespace Go.Proofs.Ytimfajlnlfaffaa.fnWordLitTable
open Go.RowKit
set_option linter.unusedVariables false

/-- the first k strings, one behind the other -/
def catL (f : Nat → ByteArray) : Nat → List UInt8
  | 0 => []
  | k + 1 => catL f k ++ (f k).data.toList
theorem catL_succ (f : Nat → ByteArray) (k : Nat) : catL f (k + 1) = catL f k ++ (f k).data.toList := rfl
theorem catL_len (f : Nat → ByteArray) (k : Nat) : (catL f k).length = stot f k := by
  induction k with
  | zero => rfl
  | succ k ih => rw [catL_succ, stot_succ, List.length_append, ih, Array.length_toList]; rfl
theorem join_empty (xs : List (List UInt8)) : Lib.join xs [] = xs.flatten := by
  cases xs with
  | nil => rfl
  | cons x r => rw [Lib.join_cons]; simp [Lib.joinTail]
theorem catL_flat (f : Nat → ByteArray) (k : Nat) : (((List.range k).map f).map (·.data.toList)).flatten = catL f k := by
  induction k with
  | zero => rfl
  | succ k ih => rw [List.range_succ, List.map_append, List.map_append, List.flatten_append, ih]; simp [catL]
def byteV (c : UInt8) : Value := .int .u8 (c.toNat : Int)
theorem infoB : (Try.prog.info? 5).map (fun i => (i.zero, i.size, i.bytes)) = some (some (.int .u8 0), 1, 1) := by kernel_rfl
theorem take_snoc (s : ByteArray) (k : Nat) (h : k < s.size) : s.data.toList.take (k + 1) = s.data.toList.take k ++ [s[k]] := by
  rw [List.take_succ_eq_append_getElem (by simpa using h)]; rfl
set_option maxRecDepth 100000 in
set_option maxHeartbeats 1000000 in
theorem al_true (A C : Option Addr) (n m : Nat) (ks : Nat → Int) (w : World) (hr : RowOf .u8 w C m ks) (hk : ∀ i, i < m → 0 ≤ ks i ∧ ks i ≤ 255) (hn : n ≤ 65536) (h : ∀ i, i < n → kd ks m i = 0) :
    Calls Try.prog 46 #[.slice A n n, .slice C m m] w fun e w' => e = .returned (.bool true) ∧ w = w' := by
  have HR := Lib.hid hr
  have HK := Lib.hid hk
  have HH := Lib.hid h
  clear hr hk h
  go_enter Try.func46, Try.ntmps46
  go_wp2_with fail
  go_loop [5] (fun i => ∃ k : Nat, k ≤ n ∧ i = .int .i64 k) (fun i => n - (intOf i).toNat)
  case atStart => exact ⟨0, Nat.zero_le _, rfl⟩
  case round =>
    obtain ⟨k, hk, rfl⟩ := hrel
    by_cases hlt : k < n
    · go_wp2_with (first | (go_at_call 70; (with_reducible refine (pk_is _ _ _ ks 0 _ HR.out HK.out (by omega) (Lib.hid (HH.out k hlt))).mono ?_); rintro e w' ⟨rfl, rfl⟩))
      go_round
      case rel => exact ⟨k + 1, by omega, by go_num⟩
      case measure => simp [intOf]; omega
    · go_wp2_with fail
      go_ret
      exact ⟨rfl, rfl⟩
theorem zero_step {kk : Nat → Int} {k : Nat} (HJ : Hid (∀ j, j < k → kk j = 0)) (h : kk k = 0) : Hid (∀ j, j < k + 1 → kk j = 0) := Lib.hid (fun j hj => by
  by_cases e : j < k
  · exact HJ.out j e
  · obtain rfl : j = k := by omega
    exact h)
set_option maxRecDepth 100000 in
set_option maxHeartbeats 1000000 in
theorem al_false (A C : Option Addr) (n m : Nat) (ks : Nat → Int) (w : World) (hr : RowOf .u8 w C m ks) (hk : ∀ i, i < m → 0 ≤ ks i ∧ ks i ≤ 255) (hn : n ≤ 65536) (h : ∃ i, i < n ∧ kd ks m i ≠ 0) :
    Calls Try.prog 46 #[.slice A n n, .slice C m m] w fun e w' => e = .returned (.bool false) ∧ w = w' := by
  have HR := Lib.hid hr
  have HK := Lib.hid hk
  have HH := Lib.hid h
  clear hr hk h
  go_enter Try.func46, Try.ntmps46
  go_wp2_with fail
  go_loop [5] (fun i => ∃ k : Nat, k ≤ n ∧ i = .int .i64 k ∧ Hid (∀ j, j < k → kd ks m j = 0)) (fun i => n - (intOf i).toNat)
  case atStart => exact ⟨0, Nat.zero_le _, rfl, Lib.hid (fun j hj => absurd hj (by omega))⟩
  case round =>
    obtain ⟨k, hk, rfl, HJ⟩ := hrel
    by_cases hlt : k < n
    · rcases kd_in ks m k (fun i hi => (HK.out i hi).1) with h | h | h
      · go_wp2_with (first | (go_at_call 70; (with_reducible refine (pk_is _ _ _ ks 0 _ HR.out HK.out (by omega) (Lib.hid h)).mono ?_); rintro e w' ⟨rfl, rfl⟩))
        go_round
        case rel => exact ⟨k + 1, by omega, by go_num, zero_step HJ h⟩
        case measure => simp [intOf]; omega
      · go_wp2_with (first | (go_at_call 70; (with_reducible refine (pk_is _ _ _ ks 1 _ HR.out HK.out (by omega) (Lib.hid h)).mono ?_); rintro e w' ⟨rfl, rfl⟩))
        go_ret
        exact ⟨rfl, rfl⟩
      · go_wp2_with (first | (go_at_call 70; (with_reducible refine (pk_is _ _ _ ks 2 _ HR.out HK.out (by omega) (Lib.hid h)).mono ?_); rintro e w' ⟨rfl, rfl⟩))
        go_ret
        exact ⟨rfl, rfl⟩
    · exfalso
      obtain ⟨j, h1, h2⟩ := HH.out
      exact h2 (HJ.out j (by omega))
/-- the word's literal text, or nothing -/
def LitB (f : Nat → ByteArray) (kk : Nat → Int) (n : Nat) (w : World) (e : Ending) (w' : World) : Prop :=
  ((∀ i, i < n → kk i = 0) ∧ e = .returned (.string ⟨(catL f n).toArray⟩) ∨ (∃ i, i < n ∧ kk i ≠ 0) ∧ e = .returned (.string ⟨#[]⟩)) ∧ Below w.heap.size w w'
theorem rows_step {W : World} {B : Nat} {v : Value} {k : Nat} {f : Nat → ByteArray} (h : W.ownsRow B 9 1 v (k + 1) ((List.range k).map (strV f) ++ [.string (f k)])) : W.ownsRow B 9 1 v (k + 1) ((List.range (k + 1)).map (strV f)) := by
  rw [List.range_succ, List.map_append]; exact h
set_option maxRecDepth 100000 in
set_option maxHeartbeats 2000000 in
theorem wlit_any (base : Int) (f : Nat → ByteArray) (kk : Nat → Int) (n b : Nat) (w : World) (hW : WordOf base f kk n b w) (hn : n ≤ 65536) (ht : stot f n ≤ 1048576) :
    Calls Try.prog 45 #[.pointer (some ⟨b, 0, none⟩)] w (LitB f kk n w) := by
  obtain ⟨g, h1, hP⟩ := hW
  have HP := Lib.hid hP
  have zb := lt_cell h1
  clear hP
  obtain ⟨i0, hi, hz0, hz1, hz2⟩ := info_parts infoS
  have HI := Lib.hid (And.intro hi (And.intro hz0 (And.intro hz1 hz2)))
  clear hi hz0 hz1 hz2
  have ta0 : ∀ (v : Value) (W : World), (Instr.typeAssert (.iface 34 v) 120 34 true).run Try.prog W = .ok (.tuple #[v, .bool true]) W := fun _ _ => by kernel_rfl
  have ta1 : ∀ (v : Value) (W : World), (Instr.typeAssert (.iface 113 v) 120 34 true).run Try.prog W = .ok (.tuple #[.pointer none, .bool false]) W := fun _ _ => by kernel_rfl
  have ta2 : ∀ (v : Value) (W : World), (Instr.typeAssert (.iface 116 v) 120 34 true).run Try.prog W = .ok (.tuple #[.pointer none, .bool false]) W := fun _ _ => by kernel_rfl
  go_enter Try.func45, Try.ntmps45
  go_wp2_with (first | (at_make; (refine wpList_make_own _ rfl _ _ 61 rfl w.heap.size 9 i0 (.string ⟨#[]⟩) 1 Try.underlying61 HI.out.1 HI.out.2.1 HI.out.2.2.1 _ _ _ 1 rfl rfl rfl (by rw [HI.out.2.2.2]; omega) (by unfold maxLen; omega) (Nat.le_refl _) ?_); intro w1 hown hgrow; have h1 := hgrow.cell h1 (by simp)))
  have hB1 : Below w.heap.size w w1 := (Below.refl _ _).grown hgrow (Nat.le_refl _) (by simp)
  have HO1 := Lib.hid hown
  have HB1 := Lib.hid hB1
  clear hown hgrow hB1
  go_loopw [3, 14] (fun v i wr => ∃ k : Nat, k ≤ n ∧ i = .int .i64 k ∧ Hid (wr.ownsRow w.heap.size 9 1 v k ((List.range k).map (strV f)) ∧ Below w.heap.size w wr ∧ ∀ j, j < k → kk j = 0)) (fun _ i _ => n - (intOf i).toNat)
  case atStart => exact ⟨0, Nat.zero_le _, rfl, Lib.hid ⟨HO1.out, HB1.out, fun j hj => absurd hj (by omega)⟩⟩
  case round =>
    obtain ⟨k, hk, rfl, HR⟩ := hrel
    clear HO1 HB1
    by_cases hlt : k < n
    · obtain ⟨x, hx, hp⟩ := HP.out k hlt
      have hx := cell_later HR.out.2.1 hx
      rcases hp with ⟨e, c, _, rfl, _, _, _, _, c4⟩ | ⟨e, c, _, rfl, _⟩ | ⟨e, c, _, rfl, _⟩
      · have c4 := cell_later HR.out.2.1 c4
        have E := Lib.hid e
        clear e
        go_wp2_with (first | (at_builtin; (refine wpList_append_own _ rfl _ _ 61 rfl w.heap.size 9 i0 (.string ⟨#[]⟩) 1 16 Try.underlying61 HI.out.1 HI.out.2.1 HI.out.2.2.1 HI.out.2.2.2 rfl (by decide) _ k _ rfl (HR.out.1.alloc _) ⟨wr.heap.size, 0, none⟩ 1 1 [.string (f k)] rfl rfl one_new (by simp [Value.oneCell']) (by unfold maxLen; omega) (by omega) (by have := HR.out.2.1.size; simp; omega) ?_); intro v2 w2 hown2 hgrow2 _))
        go_roundw
        case rel =>
          have hR := HR.out
          refine ⟨k + 1, by omega, by go_num, Lib.hid ⟨rows_step hown2, ?_, (zero_step (Lib.hid hR.2.2) E.out).out⟩⟩
          exact (hR.2.1.alloc hR.2.1.size _).grown hgrow2 (by have := hR.2.1.size; simp; omega) (fun q hq => (hR.1.lt q hq).1)
        case measure => simp [intOf]; omega
      · go_wp2_with fail
        go_ret
        exact ⟨.inr ⟨⟨k, hlt, by omega⟩, rfl⟩, HR.out.2.1⟩
      · go_wp2_with fail
        go_ret
        exact ⟨.inr ⟨⟨k, hlt, by omega⟩, rfl⟩, HR.out.2.1⟩
    · obtain rfl : k = n := by omega
      by_cases h0 : 0 < k
      · obtain ⟨g2, cap2, hv, _, hlt2⟩ := HR.out.1.form h0
        subst hv
        obtain ⟨hO, hB, hZ⟩ := HR.out
        have hcap : k ≤ cap2 := by
          rcases hO.2 with ⟨e, _⟩ | ⟨g', c', cur, e, _, _, hc, _⟩
          · simp at e
          · simp at e
            omega
        have hj := Try.strings_Join g2 0 cap2 ((List.range k).map f) ⟨#[]⟩ wr (fun j x hx => by
          have hjk : j < k := by have := (List.getElem?_eq_some_iff.1 hx).1; simpa using this
          rw [Nat.zero_add, hO.cellAt j (by omega)]
          simp [hjk] at hx ⊢
          rw [← hx]; rfl) hlt2 (by simp; omega) (by simpa using hcap) (by
            have e0 : (⟨#[]⟩ : ByteArray).data.toList = [] := rfl
            rw [e0, join_empty, catL_flat, catL_len]; omega)
        have e0 : (⟨#[]⟩ : ByteArray).data.toList = [] := rfl
        rw [e0, join_empty, catL_flat, List.length_map, List.length_range] at hj
        have HJ := Lib.hid hj
        have HB := Lib.hid hB
        have HZ := Lib.hid hZ
        clear hj hO hB hZ HR hcap
        go_wp2_with fail
        refine HJ.out.mono ?_
        rintro e w3 ⟨rfl, hb3⟩
        go_wp2_with fail
        go_ret
        exact ⟨.inl ⟨HZ.out, rfl⟩, below_next HB.out hb3⟩
      · obtain rfl : k = 0 := by omega
        have hform : ∃ a c, u3 = .slice a 0 c := by
          rcases HR.out.1.2 with ⟨e, _⟩ | ⟨g', c', cur, e, _⟩
          · exact ⟨_, _, e⟩
          · exact ⟨_, _, e⟩
        obtain ⟨a, c, rfl⟩ := hform
        go_wp2_with fail
        refine (Try.strings_Join_none a c ⟨#[]⟩ _).mono ?_
        rintro e w3 ⟨rfl, rfl⟩
        go_wp2_with fail
        go_ret
        exact ⟨.inl ⟨fun i hi => absurd hi (by omega), rfl⟩, HR.out.2.1⟩

/-- the bytes gathered so far: all of the first k strings, j bytes of the next -/
def part (f : Nat → ByteArray) (k j : Nat) : List Value := (catL f k ++ (f k).data.toList.take j).map byteV
theorem part_zero (f : Nat → ByteArray) (k : Nat) : part f k 0 = (catL f k).map byteV := by simp [part]
theorem part_step (f : Nat → ByteArray) (k j : Nat) (h : j < (f k).size) : part f k j ++ [.int .u8 ((f k)[j].toNat : Int)] = part f k (j + 1) := by
  unfold part
  rw [take_snoc (f k) j h, ← List.append_assoc, List.map_append (l₂ := [(f k)[j]])]
  rfl
theorem part_all (f : Nat → ByteArray) (k : Nat) : part f k (f k).size = (catL f (k + 1)).map byteV := by
  unfold part
  rw [List.take_of_length_le (by rw [Array.length_toList]; exact Nat.le_refl _), catL_succ]
set_option maxRecDepth 100000 in
set_option maxHeartbeats 2000000 in
theorem ca_any (A : Option Addr) (n : Nat) (f : Nat → ByteArray) (w : World) (hs : StrsOf w A n f) (hn : n ≤ 65536) (ht : stot f n ≤ 1048576) :
    Calls Try.prog 47 #[.slice A n n] w fun e w' => e = .returned (.string ⟨(catL f n).toArray⟩) ∧ Below w.heap.size w w' := by
  have HS := Lib.hid hs
  clear hs
  obtain ⟨i0, hi, hz0, hz1, hz2⟩ := info_parts infoB
  have HI := Lib.hid (And.intro hi (And.intro hz0 (And.intro hz1 hz2)))
  clear hi hz0 hz1 hz2
  go_enter Try.func47, Try.ntmps47
  go_wp2_with fail
  go_loop [3, 4] (fun s i => ∃ k : Nat, k ≤ n ∧ i = .int .i64 k ∧ s = .int .i64 (stot f k)) (fun _ i => n - (intOf i).toNat)
  case atStart => exact ⟨0, Nat.zero_le _, rfl, by simp [stot]⟩
  case round =>
    obtain ⟨k, hk, rfl, rfl⟩ := hrel
    by_cases hlt : k < n
    · obtain ⟨x, rfl, hc⟩ := HS.out k hlt
      have HT := Lib.hid (stot_succ f k)
      have hle := stot_le f hlt
      go_wp2_with fail
      go_round
      case rel => exact ⟨k + 1, by omega, by go_num, congrArg _ (by rw [HT.out]; omega)⟩
      case measure => simp [intOf]; omega
    · obtain rfl : k = n := by omega
      go_wp2_with (first | (at_make; (refine wpList_make_own _ rfl _ _ 70 rfl w.heap.size 5 i0 (.int .u8 0) 1 Try.underlying70 HI.out.1 HI.out.2.1 HI.out.2.2.1 _ _ _ (stot f k) rfl rfl rfl (by rw [HI.out.2.2.2]; omega) (by unfold maxLen; omega) (Nat.le_refl _) ?_); intro w1 hown hgrow))
      have hB1 : Below w.heap.size w w1 := (Below.refl _ _).grown hgrow (Nat.le_refl _) (by simp)
      have HO1 := Lib.hid hown
      have HB1 := Lib.hid hB1
      clear hown hgrow hB1
      go_loopw [5, 6] (fun v i wr => ∃ j : Nat, j ≤ k ∧ i = .int .i64 j ∧ v = .slice (some ⟨w.heap.size, 0, none⟩) (stot f j) (stot f k) ∧ Hid (wr.ownsRow w.heap.size 5 1 (.slice (some ⟨w.heap.size, 0, none⟩) (stot f j) (stot f k)) (stot f j) ((catL f j).map byteV) ∧ Below w.heap.size w wr)) (fun _ i _ => k - (intOf i).toNat)
      case atStart => exact ⟨0, Nat.zero_le _, rfl, rfl, Lib.hid ⟨HO1.out, HB1.out⟩⟩
      case round =>
        obtain ⟨j, hj, rfl, rfl, HR⟩ := hrel
        clear HO1 HB1
        by_cases hlt : j < k
        · obtain ⟨x, rfl, hc⟩ := HS.out j hlt
          have HT := Lib.hid (stot_succ f j)
          have hle := stot_le f hlt
          have hx := cell_later HR.out.2 hc
          go_wp2_with fail
          obtain ⟨wO, rfl⟩ : ∃ wO : World, wO = wr := ⟨_, rfl⟩
          go_loopw [5, 8] (fun v i wr => ∃ l : Nat, l ≤ (f j).size ∧ i = .int .i64 l ∧ v = .slice (some ⟨w.heap.size, 0, none⟩) (stot f j + l) (stot f k) ∧ Hid (wr.ownsRow w.heap.size 5 1 (.slice (some ⟨w.heap.size, 0, none⟩) (stot f j + l) (stot f k)) (stot f j + l) (part f j l) ∧ Below w.heap.size w wr)) (fun _ i _ => (f j).size - (intOf i).toNat)
          case atStart => exact ⟨0, Nat.zero_le _, rfl, rfl, Lib.hid ⟨by rw [part_zero]; exact HR.out.1, HR.out.2⟩⟩
          case round =>
            obtain ⟨l, hl, rfl, rfl, HR2⟩ := hrel
            by_cases hlt2 : l < (f j).size
            · go_wp2_with (first | (at_builtin; (refine wpList_append_fits _ rfl _ _ 70 rfl w.heap.size 5 i0 1 Try.underlying70 HI.out.1 HI.out.2.2.1 w.heap.size (stot f j + l) (stot f k) (part f j l) rfl (HR2.out.1.alloc _) ⟨wr.heap.size, 0, none⟩ 1 1 [.int .u8 ((f j)[l].toNat : Int)] rfl rfl one_new (by simp [Value.oneCell']) (by omega) ?_); intro w2 hown2 hg2))
              go_roundw
              case rel =>
                rw [part_step f j l hlt2] at hown2
                exact ⟨l + 1, by omega, by go_num, rfl, Lib.hid ⟨hown2, (HR2.out.2.alloc HR2.out.2.size _).grown hg2 (by have := HR2.out.2.size; simp; omega) (by intro q hq; injection hq; omega)⟩⟩
              case measure => simp [intOf]; omega
            · obtain rfl : l = (f j).size := by omega
              go_wp2_with fail
              go_roundw
              case rel => exact ⟨j + 1, by omega, by go_num, by rw [HT.out], Lib.hid ⟨by rw [HT.out, ← part_all]; exact HR2.out.1, HR2.out.2⟩⟩
              case measure => simp [intOf]; omega
        · obtain rfl : j = k := by omega
          have hcv := run_convert_bytes_back (P := Try.prog) wr 70 9 5 ⟨w.heap.size, 0, none⟩ (stot f j) (catL f j) Try.underlying70 Try.underlying5 Try.underlying9 (fun q hq => by
            have hq2 : q < stot f j := by rw [← catL_len]; exact hq
            have e : (⟨w.heap.size, 0, none⟩ : Addr).add q = ⟨w.heap.size, q, none⟩ := by unfold Addr.add; split <;> simp_all
            rw [e, HR.out.1.cellAt q (by omega)]
            simp [hq, byteV])
          rw [catL_len] at hcv
          go_wp2_with fail
          go_ret
          exact ⟨rfl, HR.out.2⟩
theorem kinds_in {w : World} {a : Option Addr} {m cap : Nat} {zs : List Int} (h : IsRow .u8 w a m cap zs) : ∀ i, i < m → 0 ≤ zs.getD i 0 ∧ zs.getD i 0 ≤ 255 := by
  intro i hi
  rcases h with ⟨rfl, rfl, rfl, rfl⟩ | ⟨x, rfl, hl, _, hz, _, hw⟩
  · omega
  · have e : zs.getD i 0 = zs[i]'(by omega) := by simp [List.getD, show i < zs.length by omega]
    rw [e]
    exact bounds_u8 (hw _ (List.getElem_mem _))
theorem IsRow.below {k : IntKind} {w w' : World} {a : Option Addr} {len cap : Nat} {zs : List Int} (h : IsRow k w a len cap zs) (hb : Below w.heap.size w w') : IsRow k w' a len cap zs := by
  rcases h with h | ⟨x, h1, h2, h3, h4, h5, h6⟩
  · exact .inl h
  · exact .inr ⟨x, h1, h2, h3, h4, fun i hi => cell_later hb (h5 i hi), h6⟩
theorem IsStrs.below {w w' : World} {a : Option Addr} {len cap : Nat} {zs : List ByteArray} (h : IsStrs w a len cap zs) (hb : Below w.heap.size w w') : IsStrs w' a len cap zs := by
  rcases h with h | ⟨x, h1, h2, h3, h4, h5, h6⟩
  · exact .inl h
  · exact .inr ⟨x, h1, h2, h3, h4, fun i hi => cell_later hb (h5 i hi), h6⟩

set_option maxRecDepth 100000 in
set_option maxHeartbeats 4000000 in
theorem walk (a0 : Option Addr) (len0 cap0 : Nat) (z0 : List ByteArray) (a1 : Option Addr) (len1 cap1 : Nat) (z1 : List Int) (w : World) (w0 : IsStrs w a0 len0 cap0 z0) (w1 : IsRow .u8 w a1 len1 cap1 z1) :
    Calls Try.prog 8 #[.slice a0 len0 cap0, .slice a1 len1 cap1] w fun e w' => e = .returned (.bool true) ∧ Below w.heap.size w w' := by
  obtain ⟨hs, hm⟩ := strIn_of w0
  have HS := Lib.hid hs
  have W1 := Lib.hid w0
  have HK := Lib.hid (kinds_in w1)
  have W2 := Lib.hid w1
  clear hs hm w0 w1
  go_enter Try.func8, Try.ntmps8
  go_wp2_with fail
  refine (zbL_any _ _ _ _ _ _ _ _ HS.out).mono ?_
  rintro e v1 ⟨b, rfl, hb1, hz⟩
  cases b
  · go_wp2_with fail
    go_ret
    exact ⟨rfl, hb1⟩
  have HZ := Lib.hid (hz rfl)
  have HS := Lib.hid (HS.out.below hb1)
  have H1 := Lib.hid hb1
  clear hz hb1
  go_wp2_with fail
  refine (sok_any _ _ _ _ _ _ _ _ HS.out HZ.out).mono ?_
  rintro e v2 ⟨b, rfl, rfl, hq⟩
  cases b
  · go_wp2_with fail
    go_ret
    exact ⟨rfl, H1.out⟩
  obtain ⟨n1, n2, n3⟩ := hq rfl
  clear hq HZ HS
  go_wp2_with fail
  refine (cps_row _ _ _ z0 _ (IsStrs.below W1.out H1.out) (by omega)).mono ?_
  rintro e v3 ⟨A, rfl, hA, hb3⟩
  have H3 := Lib.hid (below_next H1.out hb3)
  have SA := Lib.hid hA
  clear hA hb3 H1 W1
  go_wp2_with fail
  refine (ck8_row _ _ _ z1 _ (IsRow.below W2.out H3.out) (by omega)).mono ?_
  rintro e v4 ⟨C, rfl, hC, hb4⟩
  have H4 := Lib.hid (below_next H3.out hb4)
  have SA := Lib.hid (SA.out.below hb4)
  have SC := Lib.hid hC
  clear hC hb4 H3 W2
  go_wp2_with fail
  refine (bw_any _ _ _ _ _ _ _ _ (by omega) SA.out SC.out HK.out (by omega) (by omega)).mono ?_
  rintro e v5 ⟨b, rfl, hW, hb5⟩
  have H5 := Lib.hid (below_next H4.out hb5)
  have SA := Lib.hid (SA.out.below hb5)
  have SC := Lib.hid (SC.out.below hb5)
  have HW := Lib.hid hW
  clear hW hb5 H4
  go_wp2_with fail
  refine (wlit_any _ _ _ _ _ _ HW.out (by omega) (by omega)).mono ?_
  rintro e v6 ⟨hR, hb6⟩
  have H6 := Lib.hid (below_next H5.out hb6)
  have SA := Lib.hid (SA.out.below hb6)
  have SC := Lib.hid (SC.out.below hb6)
  clear hb6 H5 HW
  rcases hR with ⟨hz, rfl⟩ | ⟨hz, rfl⟩
  · have HZ := Lib.hid hz
    clear hz
    go_wp2_with fail
    refine (al_true _ _ _ _ _ _ SC.out HK.out (by omega) HZ.out).mono ?_
    rintro e v7 ⟨rfl, rfl⟩
    go_wp2_with fail
    refine (ca_any _ _ _ _ SA.out (by omega) (by omega)).mono ?_
    rintro e v8 ⟨rfl, hb8⟩
    go_wp2_with fail
    go_ret
    exact ⟨by simp, below_next H6.out hb8⟩
  · have HZ := Lib.hid hz
    clear hz
    go_wp2_with fail
    refine (al_false _ _ _ _ _ _ SC.out HK.out (by omega) HZ.out).mono ?_
    rintro e v7 ⟨rfl, rfl⟩
    go_wp2_with fail
    go_ret
    exact ⟨by simp, H6.out⟩
end Go.Proofs.Ytimfajlnlfaffaa.fnWordLitTable
