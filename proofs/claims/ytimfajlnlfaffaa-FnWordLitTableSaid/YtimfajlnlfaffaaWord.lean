/- Words built of literals, single- and double-quoted parts laid side by side: what buildWord makes, where such a word starts and ends. Conditions: sizes as the law bounds them. -/
import Derived.Test.YtimfajlnlfaffaaList
import Derived.Test.YtimfajlnlfaffaaStrs
namespace Go.Proofs.Ytimfajlnlfaffaa
open Go.RowKit
set_option linter.unusedVariables false

/-- the position at offset o on line 1 -/
def lc1 (o : Int) : Int := lcOf 1 (o + 1)
theorem lc1_in (o : Int) (h : 0 ≤ o) : 16384 ≤ lc1 o ∧ lc1 o ≤ 32767 := by
  unfold lc1 lcOf lineIn colIn
  repeat' split
  all_goals omega
theorem lc1_step (o r : Int) (h : 0 ≤ o) (h2 : o ≤ 4294967283) (hr : r = o + 1) : addO o (lc1 o) 1 = r ∧ addLc o (lc1 o) 1 = lc1 r := by
  subst hr
  have h1 := lc1_in o h
  refine ⟨addO_to _ _ _ _ (by omega) (by omega) rfl (by omega), ?_⟩
  refine (addLc_is (by omega) (by simp; omega) ?_).symm
  unfold lc1 lcOf lineIn colIn
  repeat' split
  all_goals omega
set_option maxHeartbeats 400000 in
theorem mkp_at (o : Int) (w : World) (ho : 0 ≤ o ∧ o ≤ 4294967284) :
    Calls Try.prog 71 #[.int .u32 o] w fun e w' => e = .returned (.agg #[.int .u32 o, .int .u32 (lc1 o)]) ∧ w' = (w.alloc (.cells #[.int .u32 o, .int .u32 (lc1 o)] 24)).alloc (.cells #[.int .u32 o, .int .u32 (lc1 o)] 24) := by
  have e1 : offCap o = o := by unfold offCap; rw [if_neg (by omega)]
  have E := Lib.hid e1
  clear e1
  go_enter Try.func71, Try.ntmps71
  go_wp2_with fail
  refine (newPos_at _ _ _ _ (by omega) (by omega) (by omega)).mono ?_
  rintro e wN ⟨rfl, rfl⟩
  rw [E.out]
  go_wp2_with fail
  exact bodyPost_ret (v := .agg #[.int .u32 o, .int .u32 (lc1 o)]) (by simp [results, Try.results71, go_sem, lc1]) rfl ⟨rfl, rfl⟩
/-- the kinds of the parts -/
def kd (ks : Nat → Int) (m i : Nat) : Int := if i < m then ks i % 3 else 0
theorem kd_in (ks : Nat → Int) (m i : Nat) (h : ∀ i, i < m → 0 ≤ ks i) : kd ks m i = 0 ∨ kd ks m i = 1 ∨ kd ks m i = 2 := by
  unfold kd
  split
  · rename_i hi; have := h i hi; omega
  · exact .inl rfl
set_option maxHeartbeats 400000 in
theorem pk_is (A : Option Addr) (m i : Nat) (ks : Nat → Int) (r : Int) (w : World) (hr : RowOf .u8 w A m ks) (hk : ∀ i, i < m → 0 ≤ ks i ∧ ks i ≤ 255) (hi : i ≤ 1048576) (h : Hid (kd ks m i = r)) :
    Calls Try.prog 70 #[.slice A m m, .int .i64 i] w fun e w' => e = .returned (.int .u8 r) ∧ w = w' := by
  rw [← h.out]
  unfold kd
  by_cases hlt : i < m
  · obtain ⟨g, rfl, hc⟩ := hr i hlt
    have := hk i hlt
    rw [if_pos hlt]
    clear hr hk h
    go_enter Try.func70, Try.ntmps70
    go_wp2
    go_ret
    exact ⟨rfl, rfl⟩
  · rw [if_neg hlt]
    clear hr hk h
    go_enter Try.func70, Try.ntmps70
    go_wp2
    go_ret
    exact ⟨rfl, rfl⟩
/-- the source's length up to part k -/
def srcn (f : Nat → ByteArray) (kk : Nat → Int) : Nat → Nat
  | 0 => 0
  | k + 1 => srcn f kk k + (f k).size + (if kk k = 0 then 0 else 2)
theorem srcn_succ (f : Nat → ByteArray) (kk : Nat → Int) (k : Nat) : srcn f kk (k + 1) = srcn f kk k + (f k).size + (if kk k = 0 then 0 else 2) := rfl
theorem srcn_zero (f : Nat → ByteArray) (kk : Nat → Int) (k : Nat) (h : kk k = 0) : srcn f kk (k + 1) = srcn f kk k + (f k).size := by rw [srcn_succ, if_pos h]; rfl
theorem srcn_two (f : Nat → ByteArray) (kk : Nat → Int) (k : Nat) (h : kk k = 1 ∨ kk k = 2) : srcn f kk (k + 1) = srcn f kk k + (f k).size + 2 := by rw [srcn_succ, if_neg (by omega)]
theorem srcn_le (f : Nat → ByteArray) (kk : Nat → Int) (k : Nat) : srcn f kk k ≤ stot f k + 2 * k := by
  induction k with
  | zero => simp [srcn]
  | succ k ih => rw [srcn_succ, stot_succ]; split <;> omega
set_option maxRecDepth 100000 in
set_option maxHeartbeats 1000000 in
theorem srcl_any (A B : Option Addr) (n m : Nat) (f : Nat → ByteArray) (ks : Nat → Int) (w : World) (hs : StrsOf w A n f) (hr : RowOf .u8 w B m ks) (hk : ∀ i, i < m → 0 ≤ ks i ∧ ks i ≤ 255) (hn : n ≤ 65536) (ht : stot f n ≤ 1048576) :
    Calls Try.prog 39 #[.slice A n n, .slice B m m] w fun e w' => e = .returned (.int .u64 (srcn f (kd ks m) n)) ∧ w = w' := by
  have HS := Lib.hid hs
  have HR := Lib.hid hr
  have HK := Lib.hid hk
  clear hs hr hk
  go_enter Try.func39, Try.ntmps39
  go_wp2_with fail
  go_loop [5, 6] (fun s i => ∃ k : Nat, k ≤ n ∧ i = .int .i64 k ∧ s = .int .u64 (srcn f (kd ks m) k)) (fun _ i => n - (intOf i).toNat)
  case atStart => exact ⟨0, Nat.zero_le _, rfl, rfl⟩
  case round =>
    obtain ⟨k, hk, rfl, rfl⟩ := hrel
    by_cases hlt : k < n
    · obtain ⟨g, rfl, hc⟩ := HS.out k hlt
      have hle := stot_le f hlt
      have hsr := srcn_le f (kd ks m) k
      rcases kd_in ks m k (fun i hi => (HK.out i hi).1) with h | h | h
      · have HT := Lib.hid (srcn_zero f _ k h)
        go_wp2_with (first | (go_at_call 70; (with_reducible refine (pk_is _ _ _ ks 0 _ HR.out HK.out (by omega) (Lib.hid h)).mono ?_); rintro e w' ⟨rfl, rfl⟩))
        go_round
        case rel => exact ⟨k + 1, by omega, by go_num, congrArg _ (by rw [HT.out]; omega)⟩
        case measure => simp [intOf]; omega
      · have HT := Lib.hid (srcn_two f _ k (.inl h))
        go_wp2_with (first | (go_at_call 70; (with_reducible refine (pk_is _ _ _ ks 1 _ HR.out HK.out (by omega) (Lib.hid h)).mono ?_); rintro e w' ⟨rfl, rfl⟩))
        go_round
        case rel => exact ⟨k + 1, by omega, by go_num, congrArg _ (by rw [HT.out]; omega)⟩
        case measure => simp [intOf]; omega
      · have HT := Lib.hid (srcn_two f _ k (.inr h))
        go_wp2_with (first | (go_at_call 70; (with_reducible refine (pk_is _ _ _ ks 2 _ HR.out HK.out (by omega) (Lib.hid h)).mono ?_); rintro e w' ⟨rfl, rfl⟩))
        go_round
        case rel => exact ⟨k + 1, by omega, by go_num, congrArg _ (by rw [HT.out]; omega)⟩
        case measure => simp [intOf]; omega
    · obtain rfl : k = n := by omega
      go_wp2
      go_ret
      exact ⟨rfl, rfl⟩
/-- the sizes are within the law's bounds, if the answer is true -/
def OkBool (n m : Nat) (f : Nat → ByteArray) (w : World) (e : Ending) (w' : World) : Prop := ∃ b : Bool, e = .returned (.bool b) ∧ w = w' ∧ (b = true → n ≤ 65536 ∧ m ≤ 1048576 ∧ stot f n ≤ 1048576)
def OkInt (n m : Nat) (f : Nat → ByteArray) (w : World) (e : Ending) (w' : World) : Prop := ∃ r : Int, e = .returned (.int .i64 r) ∧ w = w' ∧ (r ≤ 1048576 → n ≤ 65536 ∧ m ≤ 1048576 ∧ stot f n ≤ 1048576)
set_option maxRecDepth 100000 in
set_option maxHeartbeats 1000000 in
theorem ssum_any (A B : Option Addr) (n m c d : Nat) (f : Nat → ByteArray) (w : World) (hs : StrIn w A n f) (hz : ∀ i, i < n → (f i).size ≤ 1048576) :
    Calls Try.prog 69 #[.slice A n c, .slice B m d] w (OkInt n m f w) := by
  have HS := Lib.hid hs
  have HM := Lib.hid hz
  clear hs hz
  by_cases h1 : 65536 < n
  · go_enter Try.func69, Try.ntmps69
    go_wp2
    go_ret
    exact ⟨_, rfl, rfl, fun h => absurd h (by omega)⟩
  by_cases h2 : 1048576 < m
  · go_enter Try.func69, Try.ntmps69
    go_wp2
    go_ret
    exact ⟨_, rfl, rfl, fun h => absurd h (by omega)⟩
  go_enter Try.func69, Try.ntmps69
  go_wp2_with fail
  go_loop [5, 6] (fun s i => ∃ k : Nat, k ≤ n ∧ stot f k ≤ 1048576 ∧ i = .int .i64 k ∧ s = .int .i64 (m + 16 * n + stot f k)) (fun _ i => n - (intOf i).toNat)
  case atStart => exact ⟨0, Nat.zero_le _, by simp [stot], rfl, by simp [stot]⟩
  case round =>
    obtain ⟨k, hk, ht, rfl, rfl⟩ := hrel
    by_cases hlt : k < n
    · obtain ⟨x, rfl, hc⟩ := HS.out k hlt
      have HT := Lib.hid (stot_succ f k)
      have hm := HM.out k hlt
      by_cases q2 : 1048576 < (m + 16 * n + stot f k : Int) + (f k).size
      · go_wp2_with fail
        go_ret
        exact ⟨_, rfl, rfl, fun h => absurd h (by omega)⟩
      · go_wp2_with fail
        go_round
        case rel => exact ⟨k + 1, by omega, by rw [HT.out]; omega, by go_num, congrArg _ (by rw [HT.out]; omega)⟩
        case measure => simp [intOf]; omega
    · obtain rfl : k = n := by omega
      go_wp2_with fail
      go_ret
      exact ⟨_, rfl, rfl, fun h => ⟨by omega, by omega, ht⟩⟩
set_option maxHeartbeats 400000 in
theorem sok_any (A B : Option Addr) (n m c d : Nat) (f : Nat → ByteArray) (w : World) (hs : StrIn w A n f) (hz : ∀ i, i < n → (f i).size ≤ 1048576) :
    Calls Try.prog 33 #[.slice A n c, .slice B m d] w (OkBool n m f w) := by
  have HS := Lib.hid hs
  have HM := Lib.hid hz
  clear hs hz
  go_enter Try.func33, Try.ntmps33
  go_wp2_with fail
  refine (ssum_any A B n m c d f _ HS.out HM.out).mono ?_
  rintro e w' ⟨r, rfl, rfl, hr⟩
  have HR := Lib.hid hr
  clear hr
  by_cases h : r ≤ 1048576
  · go_wp2_with fail
    go_ret
    exact ⟨true, rfl, rfl, fun _ => HR.out h⟩
  · go_wp2_with fail
    go_ret
    exact ⟨decide (r ≤ 1048576), rfl, rfl, fun hh => HR.out (by simpa using hh)⟩
theorem all_step {f : Nat → ByteArray} {k : Nat} (HJ : Hid (∀ j, j < k → (f j).size ≤ 1048576)) (h : (f k).size ≤ 1048576) : Hid (∀ j, j < k + 1 → (f j).size ≤ 1048576) := Lib.hid (fun j hj => by
  by_cases e : j < k
  · exact HJ.out j e
  · obtain rfl : j = k := by omega
    exact h)
def SzBool (n : Nat) (f : Nat → ByteArray) (w : World) (e : Ending) (w' : World) : Prop := ∃ b : Bool, e = .returned (.bool b) ∧ Below w.heap.size w w' ∧ (b = true → ∀ i, i < n → (f i).size ≤ 1048576)
set_option maxRecDepth 100000 in
set_option maxHeartbeats 1000000 in
theorem zbS_any (o : Int) (A B : Option Addr) (n m c d : Nat) (f : Nat → ByteArray) (w : World) (h : StrIn w A n f) :
    Calls Try.prog 32 #[.int .u32 o, .slice A n c, .slice B m d] w (SzBool n f w) := by
  have H := Lib.hid h
  clear h
  by_cases hn : 1048576 < n
  · go_enter Try.func32, Try.ntmps32
    go_wp2
    go_ret
    exact ⟨_, rfl, by go_grown, fun h => by simp at h⟩
  · go_enter Try.func32, Try.ntmps32
    go_wp2_with fail
    go_loop [7, 8] (fun s i => ∃ k : Nat, ∃ q : Int, k ≤ n ∧ 0 ≤ q ∧ q ≤ 1048576 ∧ i = .int .i64 k ∧ s = .int .i64 q ∧ Hid (∀ j, j < k → (f j).size ≤ 1048576)) (fun _ i => n - (intOf i).toNat)
    case atStart => exact ⟨0, n, Nat.zero_le _, by omega, by omega, rfl, rfl, Lib.hid (fun j hj => absurd hj (by omega))⟩
    case round =>
      obtain ⟨k, q, hk, hm0, hm1, rfl, rfl, HJ⟩ := hrel
      by_cases hlt : k < n
      · obtain ⟨x, rfl, hc⟩ := H.out k hlt
        by_cases h1 : 1048576 < (f k).size
        · go_wp2
          go_ret
          exact ⟨_, rfl, by go_grown, fun h => by simp at h⟩
        · by_cases h2 : 1048576 < q + (f k).size
          · go_wp2
            go_ret
            exact ⟨_, rfl, by go_grown, fun h => by simp at h⟩
          · go_wp2
            go_round
            case rel => exact ⟨k + 1, q + (f k).size, by omega, by omega, by omega, by go_num, rfl, all_step HJ (by omega)⟩
            case measure => simp [intOf]; omega
      · obtain rfl : k = n := by omega
        go_wp2
        all_goals
          go_ret
          exact ⟨_, rfl, by go_grown, fun _ => HJ.out⟩
set_option maxRecDepth 100000 in
set_option maxHeartbeats 1000000 in
theorem zbL_any (A B : Option Addr) (n m c d : Nat) (f : Nat → ByteArray) (w : World) (h : StrIn w A n f) :
    Calls Try.prog 44 #[.slice A n c, .slice B m d] w (SzBool n f w) := by
  have H := Lib.hid h
  clear h
  by_cases hn : 1048576 < n
  · go_enter Try.func44, Try.ntmps44
    go_wp2
    go_ret
    exact ⟨_, rfl, by go_grown, fun h => by simp at h⟩
  · go_enter Try.func44, Try.ntmps44
    go_wp2_with fail
    go_loop [5, 6] (fun s i => ∃ k : Nat, ∃ q : Int, k ≤ n ∧ 0 ≤ q ∧ q ≤ 1048576 ∧ i = .int .i64 k ∧ s = .int .i64 q ∧ Hid (∀ j, j < k → (f j).size ≤ 1048576)) (fun _ i => n - (intOf i).toNat)
    case atStart => exact ⟨0, n, Nat.zero_le _, by omega, by omega, rfl, rfl, Lib.hid (fun j hj => absurd hj (by omega))⟩
    case round =>
      obtain ⟨k, q, hk, hm0, hm1, rfl, rfl, HJ⟩ := hrel
      by_cases hlt : k < n
      · obtain ⟨x, rfl, hc⟩ := H.out k hlt
        by_cases h1 : 1048576 < (f k).size
        · go_wp2
          go_ret
          exact ⟨_, rfl, by go_grown, fun h => by simp at h⟩
        · by_cases h2 : 1048576 < q + (f k).size
          · go_wp2
            go_ret
            exact ⟨_, rfl, by go_grown, fun h => by simp at h⟩
          · go_wp2
            go_round
            case rel => exact ⟨k + 1, q + (f k).size, by omega, by omega, by omega, by go_num, rfl, all_step HJ (by omega)⟩
            case measure => simp [intOf]; omega
      · obtain rfl : k = n := by omega
        go_wp2
        all_goals
          go_ret
          exact ⟨_, rfl, by go_grown, fun _ => HJ.out⟩
set_option maxHeartbeats 400000 in
/-- a word whose first part is of this kind -/
theorem wp_Lit (b s c n cap : Nat) (o lc : Int) (w : World) (hn : 0 < n) (h1 : w.cell? ⟨b, 0, none⟩ = some (.slice (some ⟨s, 0, none⟩) n cap)) (h2 : w.cell? ⟨s, 0, none⟩ = some (.iface 34 (.pointer (some ⟨c, 0, none⟩)))) (h3 : w.cell? ⟨c, 0, none⟩ = some (.int .u32 o)) (h4 : w.cell? ⟨c, 1, none⟩ = some (.int .u32 lc)) :
    Calls Try.prog 37 #[.pointer (some ⟨b, 0, none⟩)] w fun e w' => e = .returned (.agg #[.int .u32 o, .int .u32 lc]) ∧ Below w.heap.size w w' := by
  have z1 := lt_cell h1
  have z2 := lt_cell h2
  have z3 := lt_cell h3
  go_enter Try.func37, Try.ntmps37
  go_wp2_with fail
  refine (litPos_any c o lc _ (cell_alloc h3) (cell_alloc h4) (by simp; omega)).mono ?_
  rintro e w1 ⟨rfl, hb1⟩
  obtain ⟨k0, k1, f0, f1, hB⟩ := slot_after hb1
  clear hb1
  go_wp2_with fail
  exact bodyPost_ret (v := .agg #[.int .u32 o, .int .u32 lc]) (by simp [results, Try.results37, go_sem, k0, k1]) rfl ⟨rfl, by go_grown⟩
set_option maxHeartbeats 1000000 in
/-- a word whose last part is of this kind -/
theorem we_Lit (b s c n cap : Nat) (o lc : Int) (w : World) (hn : 0 < n) (hn2 : n ≤ 1048576) (h1 : w.cell? ⟨b, 0, none⟩ = some (.slice (some ⟨s, 0, none⟩) n cap)) (h2 : w.cell? ⟨s, n - 1, none⟩ = some (.iface 34 (.pointer (some ⟨c, 0, none⟩)))) (h3 : w.cell? ⟨c, 2, none⟩ = some (.int .u32 o)) (h4 : w.cell? ⟨c, 3, none⟩ = some (.int .u32 lc)) :
    Calls Try.prog 38 #[.pointer (some ⟨b, 0, none⟩)] w fun e w' => e = .returned (.agg #[.int .u32 (o), .int .u32 (lc)]) ∧ Below w.heap.size w w' := by
  have hb1 := lt_cell h1
  have hs1 := lt_cell h2
  have hc1 := lt_cell h3
  have H1 := Lib.hid h1
  have H2 := Lib.hid h2
  have H3 := Lib.hid h3
  have H4 := Lib.hid h4
  clear h1 h2 h3 h4
  go_enter Try.func38, Try.ntmps38
  have h1 := H1.out
  go_wp2_with fail
  refine wp_gen (fun U => Below w.heap.size w U ∧ U.cell? ⟨w.heap.size, 0, none⟩ = some (.int .u32 0) ∧ U.cell? ⟨w.heap.size, 1, none⟩ = some (.int .u32 0) ∧ U.frozen? ⟨w.heap.size, 0, none⟩ = false ∧ U.frozen? ⟨w.heap.size, 1, none⟩ = false ∧ w.heap.size < U.heap.size) ⟨by go_grown, by simp [go_sem], by simp [go_sem], by simp [go_sem], by simp [go_sem], by simp⟩ ?_
  rintro U ⟨hU, k0, k1, f0, f1, hz⟩
  clear h1
  have v1 := IntWalk.i64_in ((n : Int) - 1) (by omega)
  have v2 : (0 : Int) ≤ (n : Int) - 1 := by omega
  have v3 : ((n : Int) - 1).toNat = n - 1 := by omega
  have v4 : (n : Int) - 1 < (n : Int) := by omega
  have v5 : n - 1 < n := by omega
  have v6 : 1 ≤ n := hn
  have v7 : (1 : Int) ≤ (n : Int) := by omega
  go_region_held3 (fun U9 => Below w.heap.size w U9 ∧ U9.cell? ⟨b, 0, none⟩ = some (.slice (some ⟨s, 0, none⟩) n cap) ∧ U9.cell? ⟨s, n - 1, none⟩ = some (.iface 34 (.pointer (some ⟨c, 0, none⟩))))
    (first | exact keep2 (by go_grown) hb1 hs1 H1.out H2.out)
    (first | (go_at_call 68; refine (litEnd_any c o lc _ ?_ ?_ ?_).mono ?_; (exact cell_later (And.left (by assumption)) H3.out); (exact cell_later (And.left (by assumption)) H4.out); (exact lt_cell (cell_later (And.left (by assumption)) H3.out)); rintro e w1 ⟨rfl, hb4⟩; have hB1 := below_next (And.left (by assumption)) hb4; have k0 := bget hb4 hz k0; have k1 := bget hb4 hz k1; have f0 := bfroz hb4 hz f0; have f1 := bfroz hb4 hz f1; clear hb4))
  go_wp2_with fail
  exact bodyPost_ret (v := .agg #[.int .u32 (o), .int .u32 (lc)]) (by simp [results, Try.results38, go_sem, k0, k1]) rfl ⟨rfl, by go_grown⟩
set_option maxHeartbeats 400000 in
/-- a word whose first part is of this kind -/
theorem wp_Sgl (b s c n cap : Nat) (o lc : Int) (w : World) (hn : 0 < n) (h1 : w.cell? ⟨b, 0, none⟩ = some (.slice (some ⟨s, 0, none⟩) n cap)) (h2 : w.cell? ⟨s, 0, none⟩ = some (.iface 113 (.pointer (some ⟨c, 0, none⟩)))) (h3 : w.cell? ⟨c, 0, none⟩ = some (.int .u32 o)) (h4 : w.cell? ⟨c, 1, none⟩ = some (.int .u32 lc)) :
    Calls Try.prog 37 #[.pointer (some ⟨b, 0, none⟩)] w fun e w' => e = .returned (.agg #[.int .u32 o, .int .u32 lc]) ∧ Below w.heap.size w w' := by
  have z1 := lt_cell h1
  have z2 := lt_cell h2
  have z3 := lt_cell h3
  go_enter Try.func37, Try.ntmps37
  go_wp2_with fail
  refine (sglPos_any c o lc _ (cell_alloc h3) (cell_alloc h4) (by simp; omega)).mono ?_
  rintro e w1 ⟨rfl, hb1⟩
  obtain ⟨k0, k1, f0, f1, hB⟩ := slot_after hb1
  clear hb1
  go_wp2_with fail
  exact bodyPost_ret (v := .agg #[.int .u32 o, .int .u32 lc]) (by simp [results, Try.results37, go_sem, k0, k1]) rfl ⟨rfl, by go_grown⟩
set_option maxHeartbeats 1000000 in
/-- a word whose last part is of this kind -/
theorem we_Sgl (b s c n cap : Nat) (o lc : Int) (w : World) (ho : 0 ≤ o ∧ o ≤ 4294967295) (hl : 0 ≤ lc ∧ lc ≤ 4294967295) (hn : 0 < n) (hn2 : n ≤ 1048576) (h1 : w.cell? ⟨b, 0, none⟩ = some (.slice (some ⟨s, 0, none⟩) n cap)) (h2 : w.cell? ⟨s, n - 1, none⟩ = some (.iface 113 (.pointer (some ⟨c, 0, none⟩)))) (h3 : w.cell? ⟨c, 2, none⟩ = some (.int .u32 o)) (h4 : w.cell? ⟨c, 3, none⟩ = some (.int .u32 lc)) :
    Calls Try.prog 38 #[.pointer (some ⟨b, 0, none⟩)] w fun e w' => e = .returned (.agg #[.int .u32 (addO o lc 1), .int .u32 (addLc o lc 1)]) ∧ Below w.heap.size w w' := by
  have hb1 := lt_cell h1
  have hs1 := lt_cell h2
  have hc1 := lt_cell h3
  have H1 := Lib.hid h1
  have H2 := Lib.hid h2
  have H3 := Lib.hid h3
  have H4 := Lib.hid h4
  clear h1 h2 h3 h4
  go_enter Try.func38, Try.ntmps38
  have h1 := H1.out
  go_wp2_with fail
  refine wp_gen (fun U => Below w.heap.size w U ∧ U.cell? ⟨w.heap.size, 0, none⟩ = some (.int .u32 0) ∧ U.cell? ⟨w.heap.size, 1, none⟩ = some (.int .u32 0) ∧ U.frozen? ⟨w.heap.size, 0, none⟩ = false ∧ U.frozen? ⟨w.heap.size, 1, none⟩ = false ∧ w.heap.size < U.heap.size) ⟨by go_grown, by simp [go_sem], by simp [go_sem], by simp [go_sem], by simp [go_sem], by simp⟩ ?_
  rintro U ⟨hU, k0, k1, f0, f1, hz⟩
  clear h1
  have v1 := IntWalk.i64_in ((n : Int) - 1) (by omega)
  have v2 : (0 : Int) ≤ (n : Int) - 1 := by omega
  have v3 : ((n : Int) - 1).toNat = n - 1 := by omega
  have v4 : (n : Int) - 1 < (n : Int) := by omega
  have v5 : n - 1 < n := by omega
  have v6 : 1 ≤ n := hn
  have v7 : (1 : Int) ≤ (n : Int) := by omega
  go_region_held3 (fun U9 => Below w.heap.size w U9 ∧ U9.cell? ⟨b, 0, none⟩ = some (.slice (some ⟨s, 0, none⟩) n cap) ∧ U9.cell? ⟨s, n - 1, none⟩ = some (.iface 113 (.pointer (some ⟨c, 0, none⟩))))
    (first | exact keep2 (by go_grown) hb1 hs1 H1.out H2.out)
    (first | (go_at_call 126; refine (sglEnd_any c o lc _ ho hl ?_ ?_ ?_).mono ?_; (exact cell_later (And.left (by assumption)) H3.out); (exact cell_later (And.left (by assumption)) H4.out); (exact lt_cell (cell_later (And.left (by assumption)) H3.out)); rintro e w1 ⟨rfl, hb4⟩; have hB1 := below_next (And.left (by assumption)) hb4; have k0 := bget hb4 hz k0; have k1 := bget hb4 hz k1; have f0 := bfroz hb4 hz f0; have f1 := bfroz hb4 hz f1; clear hb4))
  go_wp2_with fail
  exact bodyPost_ret (v := .agg #[.int .u32 (addO o lc 1), .int .u32 (addLc o lc 1)]) (by simp [results, Try.results38, go_sem, k0, k1]) rfl ⟨rfl, by go_grown⟩
set_option maxHeartbeats 400000 in
/-- a word whose first part is of this kind -/
theorem wp_Dbl (b s c n cap : Nat) (o lc : Int) (w : World) (hn : 0 < n) (h1 : w.cell? ⟨b, 0, none⟩ = some (.slice (some ⟨s, 0, none⟩) n cap)) (h2 : w.cell? ⟨s, 0, none⟩ = some (.iface 116 (.pointer (some ⟨c, 0, none⟩)))) (h3 : w.cell? ⟨c, 0, none⟩ = some (.int .u32 o)) (h4 : w.cell? ⟨c, 1, none⟩ = some (.int .u32 lc)) :
    Calls Try.prog 37 #[.pointer (some ⟨b, 0, none⟩)] w fun e w' => e = .returned (.agg #[.int .u32 o, .int .u32 lc]) ∧ Below w.heap.size w w' := by
  have z1 := lt_cell h1
  have z2 := lt_cell h2
  have z3 := lt_cell h3
  go_enter Try.func37, Try.ntmps37
  go_wp2_with fail
  refine (dblPos_any c o lc _ (cell_alloc h3) (cell_alloc h4) (by simp; omega)).mono ?_
  rintro e w1 ⟨rfl, hb1⟩
  obtain ⟨k0, k1, f0, f1, hB⟩ := slot_after hb1
  clear hb1
  go_wp2_with fail
  exact bodyPost_ret (v := .agg #[.int .u32 o, .int .u32 lc]) (by simp [results, Try.results37, go_sem, k0, k1]) rfl ⟨rfl, by go_grown⟩
set_option maxHeartbeats 1000000 in
/-- a word whose last part is of this kind -/
theorem we_Dbl (b s c n cap : Nat) (o lc : Int) (w : World) (ho : 0 ≤ o ∧ o ≤ 4294967295) (hl : 0 ≤ lc ∧ lc ≤ 4294967295) (hn : 0 < n) (hn2 : n ≤ 1048576) (h1 : w.cell? ⟨b, 0, none⟩ = some (.slice (some ⟨s, 0, none⟩) n cap)) (h2 : w.cell? ⟨s, n - 1, none⟩ = some (.iface 116 (.pointer (some ⟨c, 0, none⟩)))) (h3 : w.cell? ⟨c, 2, none⟩ = some (.int .u32 o)) (h4 : w.cell? ⟨c, 3, none⟩ = some (.int .u32 lc)) :
    Calls Try.prog 38 #[.pointer (some ⟨b, 0, none⟩)] w fun e w' => e = .returned (.agg #[.int .u32 (addO o lc 1), .int .u32 (addLc o lc 1)]) ∧ Below w.heap.size w w' := by
  have hb1 := lt_cell h1
  have hs1 := lt_cell h2
  have hc1 := lt_cell h3
  have H1 := Lib.hid h1
  have H2 := Lib.hid h2
  have H3 := Lib.hid h3
  have H4 := Lib.hid h4
  clear h1 h2 h3 h4
  go_enter Try.func38, Try.ntmps38
  have h1 := H1.out
  go_wp2_with fail
  refine wp_gen (fun U => Below w.heap.size w U ∧ U.cell? ⟨w.heap.size, 0, none⟩ = some (.int .u32 0) ∧ U.cell? ⟨w.heap.size, 1, none⟩ = some (.int .u32 0) ∧ U.frozen? ⟨w.heap.size, 0, none⟩ = false ∧ U.frozen? ⟨w.heap.size, 1, none⟩ = false ∧ w.heap.size < U.heap.size) ⟨by go_grown, by simp [go_sem], by simp [go_sem], by simp [go_sem], by simp [go_sem], by simp⟩ ?_
  rintro U ⟨hU, k0, k1, f0, f1, hz⟩
  clear h1
  have v1 := IntWalk.i64_in ((n : Int) - 1) (by omega)
  have v2 : (0 : Int) ≤ (n : Int) - 1 := by omega
  have v3 : ((n : Int) - 1).toNat = n - 1 := by omega
  have v4 : (n : Int) - 1 < (n : Int) := by omega
  have v5 : n - 1 < n := by omega
  have v6 : 1 ≤ n := hn
  have v7 : (1 : Int) ≤ (n : Int) := by omega
  go_region_held3 (fun U9 => Below w.heap.size w U9 ∧ U9.cell? ⟨b, 0, none⟩ = some (.slice (some ⟨s, 0, none⟩) n cap) ∧ U9.cell? ⟨s, n - 1, none⟩ = some (.iface 116 (.pointer (some ⟨c, 0, none⟩))))
    (first | exact keep2 (by go_grown) hb1 hs1 H1.out H2.out)
    (first | (go_at_call 129; refine (dblEnd_any c o lc _ ho hl ?_ ?_ ?_).mono ?_; (exact cell_later (And.left (by assumption)) H3.out); (exact cell_later (And.left (by assumption)) H4.out); (exact lt_cell (cell_later (And.left (by assumption)) H3.out)); rintro e w1 ⟨rfl, hb4⟩; have hB1 := below_next (And.left (by assumption)) hb4; have k0 := bget hb4 hz k0; have k1 := bget hb4 hz k1; have f0 := bfroz hb4 hz f0; have f1 := bfroz hb4 hz f1; clear hb4))
  go_wp2_with fail
  exact bodyPost_ret (v := .agg #[.int .u32 (addO o lc 1), .int .u32 (addLc o lc 1)]) (by simp [results, Try.results38, go_sem, k0, k1]) rfl ⟨rfl, by go_grown⟩
end Go.Proofs.Ytimfajlnlfaffaa
