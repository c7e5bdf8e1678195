/- Slices of strings that come in, copies of them, and the law's sums over them. Conditions: the cells. -/
import Derived.Test.YtdmmpgeaendjpaaBpart
import Derived.SliceStrings
namespace Go.Proofs.Ytdmmpgeaendjpaa
open Go.RowKit
set_option linter.unusedVariables false

theorem cell_later {W w : World} {a : Addr} {v : Value} (hb : Below W.heap.size W w) (h : W.cell? a = some v) : w.cell? a = some v := cell_below hb h
/-- some Bool comes back -/
def SomeBool (w : World) (e : Ending) (w' : World) : Prop := ∃ b : Bool, e = .returned (.bool b) ∧ Below w.heap.size w w'
def sth (ss : List ByteArray) (k : Nat) : ByteArray := ss.getD k ByteArray.empty
/-- how many bytes the first k have -/
def stot (f : Nat → ByteArray) : Nat → Nat
  | 0 => 0
  | k + 1 => stot f k + (f k).size
theorem stot_succ (f : Nat → ByteArray) (k : Nat) : stot f (k + 1) = stot f k + (f k).size := rfl
theorem stot_mono (f : Nat → ByteArray) (k d : Nat) : stot f k ≤ stot f (k + d) := by
  induction d with
  | zero => exact Nat.le_refl _
  | succ d ih => rw [← Nat.add_assoc, stot_succ]; omega
theorem stot_le (f : Nat → ByteArray) {k n : Nat} (h : k < n) : stot f k + (f k).size ≤ stot f n := by
  have := stot_mono f (k + 1) (n - (k + 1))
  rw [show k + 1 + (n - (k + 1)) = n by omega, stot_succ] at this
  exact this
/-- a slice of strings that came in -/
def StrIn (w : World) (a : Option Addr) (n : Nat) (f : Nat → ByteArray) : Prop := ∀ i, i < n → ∃ x : Addr, a = some x ∧ w.cell? (x.add i) = some (.string (f i))
theorem StrIn.below {W w : World} {a : Option Addr} {n : Nat} {f : Nat → ByteArray} (h : StrIn W a n f) (hb : Below W.heap.size W w) : StrIn w a n f := fun i hi => by
  obtain ⟨x, e, hc⟩ := h i hi
  exact ⟨x, e, cell_later hb hc⟩
theorem strIn_of {w : World} {a : Option Addr} {len cap : Nat} {ss : List ByteArray} (h : IsStrs w a len cap ss) : StrIn w a len (sth ss) ∧ ∀ i, (sth ss i).size ≤ maxLen := by
  rcases h with ⟨rfl, rfl, rfl, rfl⟩ | ⟨x, rfl, hl, _, hz, hc, hw⟩
  · exact ⟨fun i hi => absurd hi (by omega), fun i => by simp [sth, maxLen]⟩
  · refine ⟨fun i hi => ⟨x, rfl, hc i (by omega)⟩, fun i => ?_⟩
    unfold sth
    by_cases hi : i < ss.length
    · have e : ss.getD i ByteArray.empty = ss[i] := by simp [List.getD, hi]
      rw [e]; exact hw _ (List.getElem_mem hi)
    · have e : ss.getD i ByteArray.empty = ByteArray.empty := by simp [List.getD, hi]
      rw [e]; simp [maxLen]
/-- a slice of strings in a row of the call's own -/
def StrsOf (W : World) (A : Option Addr) (n : Nat) (f : Nat → ByteArray) : Prop := ∀ i, i < n → ∃ g, A = some ⟨g, 0, none⟩ ∧ W.cell? ⟨g, i, none⟩ = some (.string (f i))
theorem StrsOf.below {W w : World} {A : Option Addr} {n : Nat} {f : Nat → ByteArray} (h : StrsOf W A n f) (hb : Below W.heap.size W w) : StrsOf w A n f := fun i hi => by
  obtain ⟨g, e, hc⟩ := h i hi
  exact ⟨g, e, cell_later hb hc⟩
/-- a copy after k rounds -/
def partV (v : Nat → Value) (z : Value) (n k : Nat) : List Value := (List.range k).map v ++ List.replicate (n - k) z
theorem partV_zero (v : Nat → Value) (z : Value) (n : Nat) : partV v z n 0 = List.replicate n z := by simp [partV]
theorem partV_at (v : Nat → Value) (z : Value) (n k : Nat) (hk : k < n) : (partV v z n k)[k]? = some z := by
  unfold partV
  rw [List.getElem?_append_right (by simp), show n - k = (n - (k + 1)) + 1 by omega, List.replicate_succ]
  simp
theorem partV_set (v : Nat → Value) (z : Value) (n k : Nat) (hk : k < n) : (partV v z n k).set k (v k) = partV v z n (k + 1) := by
  unfold partV
  rw [List.set_append_right _ _ (by simp), show n - k = (n - (k + 1)) + 1 by omega, List.replicate_succ]
  simp [List.range_succ]
theorem partV_get (v : Nat → Value) (z : Value) (n i : Nat) (hi : i < n) : (partV v z n n)[i]? = some (v i) := by
  unfold partV
  rw [List.getElem?_append_left (by simp; omega)]
  simp [hi]
def strV (f : Nat → ByteArray) (i : Nat) : Value := .string (f i)
theorem infoS : (Try.prog.info? 9).map (fun i => (i.zero, i.size, i.bytes)) = some (some (.string ⟨#[]⟩), 1, 16) := by kernel_rfl
theorem strsOf_row {W : World} {B g n : Nat} {f : Nat → ByteArray} {z : Value} (h : W.ownsRow B 9 1 (.slice (some ⟨g, 0, none⟩) n n) n (partV (strV f) z n n)) : StrsOf W (some ⟨g, 0, none⟩) n f := fun i hi => ⟨g, rfl, by
  rw [h.cellAt i (by omega), partV_get _ _ _ _ hi]; rfl⟩
/-- strings that are not too long -/
def Fine (f : Nat → ByteArray) (n : Nat) : Prop := ∀ i, i < n → (f i).size ≤ 1048576
theorem Fine.step {f : Nat → ByteArray} {k : Nat} (h : Fine f k) (hk : ¬ 1048576 < (f k).size) : Fine f (k + 1) := fun i hi => by
  by_cases e : i = k
  · subst e; omega
  · exact h i (by omega)
/-- an answer; where it is true the strings are fine -/
def FineBool (w : World) (f : Nat → ByteArray) (n : Nat) (e : Ending) (w' : World) : Prop := ∃ b : Bool, e = .returned (.bool b) ∧ (b = true → Fine f n) ∧ w = w'
set_option maxRecDepth 100000 in
set_option maxHeartbeats 2000000 in
theorem zbB_any (a0 : Option Addr) (m cap0 : Nat) (a : Option Addr) (n cap : Nat) (f : Nat → ByteArray) (w : World) (h : StrIn w a n f) (hml : m ≤ maxLen) :
    Calls Try.prog 6 #[.slice a0 m cap0, .slice a n cap] w (FineBool w f n) := by
  unfold maxLen at hml
  have H := Lib.hid h
  clear h
  by_cases hm : 1048576 < m
  · go_enter Try.func6, Try.ntmps6
    go_wp2
    go_ret
    exact ⟨false, rfl, fun h => by simp at h, rfl⟩
  by_cases hn : 1048576 < n
  · go_enter Try.func6, Try.ntmps6
    go_wp2
    go_ret
    exact ⟨false, rfl, fun h => by simp at h, rfl⟩
  by_cases hs : 1048576 < m + n
  · have k : (1048576 : Int) < (m : Int) + (n : Int) := by omega
    go_enter Try.func6, Try.ntmps6
    go_wp2
    go_ret
    exact ⟨false, rfl, fun h => by simp at h, rfl⟩
  · have k : (m : Int) + (n : Int) ≤ (1048576 : Int) := by omega
    go_enter Try.func6, Try.ntmps6
    go_wp2_with fail
    go_loop [5, 6] (fun s i => ∃ k : Nat, ∃ m : Int, k ≤ n ∧ 0 ≤ m ∧ m ≤ 1048576 ∧ i = .int .i64 k ∧ s = .int .i64 m ∧ Hid (Fine f k)) (fun _ i => n - (intOf i).toNat)
    case atStart => exact ⟨0, (m : Int) + (n : Int), Nat.zero_le _, by omega, by omega, rfl, rfl, Lib.hid (fun i hi => absurd hi (by omega))⟩
    case round =>
      clear k
      obtain ⟨k, m, hk, hm0, hm1, rfl, rfl, HFI⟩ := hrel
      by_cases hlt : k < n
      · obtain ⟨x, rfl, hc⟩ := H.out k hlt
        by_cases h1 : 1048576 < (f k).size
        · go_wp2
          go_ret
          exact ⟨false, rfl, fun h => by simp at h, rfl⟩
        · by_cases h2 : 1048576 < m + (f k).size
          · go_wp2
            go_ret
            exact ⟨false, rfl, fun h => by simp at h, rfl⟩
          · go_wp2
            go_round
            case rel => exact ⟨k + 1, m + (f k).size, by omega, by omega, by omega, by go_num, rfl, Lib.hid (HFI.out.step h1)⟩
            case measure => simp [intOf]; omega
      · obtain rfl : k = n := by omega
        go_wp2
        go_ret
        exact ⟨true, rfl, fun _ => HFI.out, rfl⟩
/-- the law's size: too great, or the true sum -/
def WPost (w : World) (m n : Nat) (f : Nat → ByteArray) (e : Ending) (w' : World) : Prop := ∃ r : Int, e = .returned (.int .i64 r) ∧ (1048576 < r ∨ (r ≤ 1048576 ∧ stot f n ≤ 1048576)) ∧ w = w'
set_option maxRecDepth 100000 in
set_option maxHeartbeats 2000000 in
theorem wb_any (a0 : Option Addr) (m cap0 : Nat) (a : Option Addr) (n cap : Nat) (f : Nat → ByteArray) (w : World) (h : StrIn w a n f) (hm : m ≤ 65536) (hn : n ≤ 65536) (hf : Fine f n) :
    Calls Try.prog 7 #[.slice a0 m cap0, .slice a n cap] w (WPost w m n f) := by
  have H := Lib.hid h
  have HF := Lib.hid hf
  clear h hf
  go_enter Try.func7, Try.ntmps7
  go_wp2_with fail
  go_loop [5, 6] (fun s i => ∃ k : Nat, k ≤ n ∧ (m : Int) + 8 * n + stot f k ≤ 1048576 ∧ i = .int .i64 k ∧ s = .int .i64 ((m : Int) + 8 * n + stot f k)) (fun _ i => n - (intOf i).toNat)
  case atStart => exact ⟨0, Nat.zero_le _, by simp [stot]; omega, rfl, by simp [stot]⟩
  case round =>
    obtain ⟨k, hk, hle, rfl, rfl⟩ := hrel
    by_cases hlt : k < n
    · obtain ⟨x, rfl, hc⟩ := H.out k hlt
      have hfk := HF.out k hlt
      have HS := Lib.hid (stot_succ f k)
      by_cases h2 : 1048576 < (m : Int) + 8 * n + stot f k + (f k).size
      · go_wp2
        go_ret
        exact ⟨_, rfl, .inl h2, rfl⟩
      · go_wp2
        go_round
        case rel => exact ⟨k + 1, by omega, by rw [HS.out]; omega, by go_num, congrArg _ (by rw [HS.out]; omega)⟩
        case measure => simp [intOf]; omega
    · obtain rfl : k = n := by omega
      go_wp2
      go_ret
      exact ⟨_, rfl, .inr ⟨hle, by omega⟩, rfl⟩
set_option maxHeartbeats 1000000 in
theorem wc_any (a0 : Option Addr) (m cap0 : Nat) (a : Option Addr) (n cap : Nat) (w : World) (hm : m ≤ 65536) (hn : n ≤ 65536) :
    Calls Try.prog 10 #[.slice a0 m cap0, .slice a n cap] w fun e w' => e = .returned (.int .i64 ((min m n : Nat) : Int)) ∧ w = w' := by
  by_cases h : n < m
  · have e : min m n = n := by omega
    rw [e]
    clear e
    go_enter Try.func10, Try.ntmps10
    go_wp2
    go_ret
    exact ⟨rfl, rfl⟩
  · have e : min m n = m := by omega
    rw [e]
    clear e
    go_enter Try.func10, Try.ntmps10
    go_wp2
    go_ret
    exact ⟨rfl, rfl⟩
set_option maxRecDepth 100000 in
set_option maxHeartbeats 1000000 in
theorem cls_some (x : Addr) (n cap : Nat) (f : Nat → ByteArray) (w : World) (hn : n ≤ 1048576) (h : StrIn w (some x) n f) :
    Calls Try.prog 9 #[.slice (some x) n cap] w fun e w' => e = .returned (.slice (some ⟨w.heap.size, 0, none⟩) n n) ∧ StrsOf w' (some ⟨w.heap.size, 0, none⟩) n f ∧ Below w.heap.size w w' := by
  obtain ⟨i0, hi, hz0, hz1, hz2⟩ := info_parts infoS
  have H := Lib.hid h
  clear h
  have hnil := fun (W : World) => Lib.run_eql_slice_nil (P := Try.prog) W 23 9 (some x) n cap 0 0 Try.underlying23
  go_enter Try.func9, Try.ntmps9
  go_wp2_with (first | (at_make; (refine wpList_make_full _ rfl _ _ 23 rfl w.heap.size 9 i0 (.string ⟨#[]⟩) 1 Try.underlying23 hi hz0 hz1 _ _ _ _ n rfl rfl rfl rfl (by rw [hz2]; omega) (by unfold maxLen; omega) (Nat.le_refl _) ?_); intro w1 hown hgrow))
  rw [made_cells _ _ rfl, ← partV_zero (strV f) (.string ⟨#[]⟩) n] at hown
  have hbel : Below w.heap.size w w1 := (Below.refl _ _).grown hgrow (Nat.le_refl _) (by simp)
  clear hgrow hnil hi hz0 hz1 hz2
  go_loopw [4] (fun i wr => ∃ k : Nat, k ≤ n ∧ i = .int .i64 k ∧ wr.ownsRow w.heap.size 9 1 (.slice (some ⟨w.heap.size, 0, none⟩) n n) n (partV (strV f) (.string ⟨#[]⟩) n k) ∧ Below w.heap.size w wr) (fun i _ => n - (intOf i).toNat)
  case atStart => exact ⟨0, Nat.zero_le _, rfl, hown, hbel⟩
  case round =>
    obtain ⟨k, hk, rfl, hown, hbel⟩ := hrel
    by_cases hlt : k < n
    · obtain ⟨y, e, c0⟩ := H.out k hlt
      obtain rfl : x = y := by injection e
      have c1 := cell_later hbel c0
      clear e
      have c2 : wr.cell? ⟨w.heap.size, k, none⟩ = some (.string ⟨#[]⟩) := by
        rw [hown.cellAt k (by omega)]
        exact partV_at _ _ n k hlt
      have f2 := hown.frozenAt k
      have HO := Lib.hid hown
      clear hown c0
      go_wp2
      go_roundw
      case rel =>
        have hs := (HO.out.stored k (strV f k)).1
        rw [partV_set _ _ n k hlt] at hs
        exact ⟨k + 1, by omega, by go_num, hs, hbel.setCell (Nat.le_refl _) _⟩
      case measure => simp [intOf]; omega
    · obtain rfl : k = n := by omega
      go_wp2
      go_ret
      exact ⟨rfl, strsOf_row hown, hbel⟩
set_option maxHeartbeats 1000000 in
theorem cls_none (w : World) (cap : Nat) :
    Calls Try.prog 9 #[.slice none 0 0] w fun e w' => e = .returned (.slice none 0 0) ∧ Below w.heap.size w w' := by
  have hnil := fun (W : World) => Lib.run_eql_slice_nil (P := Try.prog) W 23 9 none 0 0 0 0 Try.underlying23
  go_enter Try.func9, Try.ntmps9
  go_wp2
  go_ret
  exact ⟨rfl, by go_grown⟩
theorem cls_row (a : Option Addr) (len cap : Nat) (ss : List ByteArray) (w : World) (h : IsStrs w a len cap ss) (hn : len ≤ 1048576) :
    Calls Try.prog 9 #[.slice a len cap] w fun e w' => ∃ A, e = .returned (.slice A len len) ∧ StrsOf w' A len (sth ss) ∧ Below w.heap.size w w' := by
  have hi := (strIn_of h).1
  rcases h with ⟨rfl, rfl, rfl, rfl⟩ | ⟨x, rfl, hl, _, hz, hc, _⟩
  · exact (cls_none w 0).mono fun _ _ ⟨he, hb⟩ => ⟨none, he, fun i hi => absurd hi (by omega), hb⟩
  · exact (cls_some x len cap _ w hn hi).mono fun e w' ⟨he, ho, hb⟩ => ⟨_, he, ho, hb⟩
end Go.Proofs.Ytdmmpgeaendjpaa
