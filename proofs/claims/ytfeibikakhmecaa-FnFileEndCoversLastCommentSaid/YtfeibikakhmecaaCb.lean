/- The bounds that the laws lay on their arguments' bytes. Conditions: the cells. -/
import Derived.Test.YtfeibikakhmecaaCw
namespace Go.Proofs.Ytfeibikakhmecaa
open Go.RowKit
set_option linter.unusedVariables false

def ComsIn (n : Nat) (g : Nat → RawC) : Prop := n ≤ 1048576 ∧ ∀ i, i < n → (g i).s.size ≤ 1048576
def StmtsIn (n : Nat) (f : Nat → RawS) : Prop := n ≤ 1048576 ∧ ∀ i, i < n → (f i).len ≤ 1048576 ∧ ∀ j, j < (f i).len → ((f i).f j).s.size ≤ 1048576
def BOut (p : Prop) (e : Ending) : Prop := ∃ b : Bool, e = .returned (.bool b) ∧ (b = true → p)
theorem BOut.no {p : Prop} : BOut p (.returned (.bool false)) := ⟨false, rfl, fun h => by simp at h⟩
theorem BOut.yes {p : Prop} (h : p) : BOut p (.returned (.bool true)) := ⟨true, rfl, fun _ => h⟩
theorem IsComs.len_le {w : World} {a : Option Addr} {n c : Nat} {f : Nat → RawC} (h : IsComs w a n c f) : n ≤ 9223372036854775807 := by
  rcases h with ⟨_, h, _⟩ | ⟨_, _, h, _⟩ | ⟨_, _, _, _, h1, h2, _⟩
  · omega
  · omega
  · unfold maxLen at h2; omega
theorem IsStmts.len_le {w : World} {a : Option Addr} {n c : Nat} {f : Nat → RawS} (h : IsStmts w a n c f) : n ≤ 9223372036854775807 := by
  rcases h with ⟨_, h, _⟩ | ⟨_, _, h, _⟩ | ⟨_, _, _, _, h1, h2, _⟩
  · omega
  · omega
  · unfold maxLen at h2; omega
theorem snoc_lt {p : Nat → Prop} {k : Nat} (h : ∀ i, i < k → p i) (hk : p k) : ∀ i, i < k + 1 → p i := fun i hi => by
  by_cases e : i = k
  · rw [e]; exact hk
  · exact h i (by omega)

set_option maxRecDepth 100000 in
set_option maxHeartbeats 4000000 in
theorem zb1_any (a : Option Addr) (len cap : Nat) (f : Nat → RawC) (w : World) (h : IsComs w a len cap f) :
    Calls Try.prog 11 #[.slice a len cap] w fun e w' => BOut (ComsIn len f) e ∧ Below w.heap.size w w' := by
  have hlc := h.len_le
  have H := Lib.hid h
  clear h
  by_cases g820 : 1048576 < len
  · go_enter Try.func11, Try.ntmps11
    go_wp2_with fail
    go_ret
    exact ⟨BOut.no, Below.refl _ _⟩
  go_enter Try.func11, Try.ntmps11
  go_wp2_with fail
  go_loopw [3, 4] (fun n i wr => ∃ k : Nat, ∃ m : Int, k ≤ len ∧ i = .int .i64 k ∧ n = .int .i64 m ∧ (0 ≤ m ∧ m ≤ 1048576) ∧ Hid (∀ i, i < k → (f i).s.size ≤ 1048576) ∧ Below w.heap.size w wr) (fun _ i _ => len - (intOf i).toNat)
  case atStart => exact ⟨0, _, Nat.zero_le _, rfl, rfl, ⟨by omega, by omega⟩, Lib.hid fun i hi => absurd hi (by omega), Below.refl _ _⟩
  case round =>
    obtain ⟨k, m, hk, rfl, rfl, ⟨hm0, hm1⟩, HM, hB⟩ := hrel
    by_cases hlt : k < len
    · rcases H.out with ⟨rfl, rfl, rfl⟩ | ⟨x, _, h0, _⟩ | ⟨b, o, rfl, h0, hl, hmx, hx⟩
      · exact absurd hlt (by omega)
      · exact absurd hlt (by omega)
      obtain ⟨⟨_, _, _, c3⟩, _, _, _, hs⟩ := hx k hlt
      have c3 := cell_below hB c3
      have hs : (f k).s.size ≤ 9223372036854775807 := hs
      have ek : Hid ((f k).s.size ≤ 1048576 → ∀ i, i < k + 1 → (f i).s.size ≤ 1048576) := Lib.hid fun hq => snoc_lt HM.out hq
      obtain ⟨S, eS⟩ : ∃ S, S = (f k).s := ⟨_, rfl⟩
      rw [← eS] at c3 hs ek
      clear eS hx
      by_cases hbig : 1048576 < S.size
      · go_wp2_with fail
        go_ret
        exact ⟨BOut.no, hB⟩
      by_cases hbig2 : 1048576 < m + S.size
      · go_wp2_with fail
        go_ret
        exact ⟨BOut.no, hB⟩
      · go_wp2_with fail
        go_roundw
        case rel => exact ⟨k + 1, m + S.size, by omega, by go_num, by go_num, ⟨by omega, by omega⟩, Lib.hid (ek.out (by omega)), hB⟩
        case measure => simp [intOf]; omega
    · obtain rfl := (show k = len by omega)
      go_wp2_with fail
      go_ret
      exact ⟨BOut.yes ⟨by omega, HM.out⟩, hB⟩
set_option maxRecDepth 100000 in
set_option maxHeartbeats 4000000 in
theorem zb2_any (a : Option Addr) (len cap : Nat) (f : Nat → RawS) (w : World) (h : IsStmts w a len cap f) :
    Calls Try.prog 7 #[.slice a len cap] w fun e w' => BOut (StmtsIn len f) e ∧ Below w.heap.size w w' := by
  have hlc := h.len_le
  have H := Lib.hid h
  clear h
  by_cases g820 : 1048576 < len
  · go_enter Try.func7, Try.ntmps7
    go_wp2_with fail
    go_ret
    exact ⟨BOut.no, Below.refl _ _⟩
  go_enter Try.func7, Try.ntmps7
  go_wp2_with fail
  go_loopw [3, 4] (fun n i wr => ∃ k : Nat, ∃ m : Int, k ≤ len ∧ i = .int .i64 k ∧ n = .int .i64 m ∧ (0 ≤ m ∧ m ≤ 1048576) ∧ Hid (∀ i, i < k → (f i).len ≤ 1048576 ∧ ∀ j, j < (f i).len → ((f i).f j).s.size ≤ 1048576) ∧ Below w.heap.size w wr) (fun _ i _ => len - (intOf i).toNat)
  case atStart => exact ⟨0, _, Nat.zero_le _, rfl, rfl, ⟨by omega, by omega⟩, Lib.hid fun i hi => absurd hi (by omega), Below.refl _ _⟩
  case round =>
    obtain ⟨k, m, hk, rfl, rfl, ⟨hm0, hm1⟩, HM, hB⟩ := hrel
    by_cases hlt : k < len
    · rcases H.out with ⟨rfl, rfl, rfl⟩ | ⟨x, _, h0, _⟩ | ⟨b, o, rfl, h0, hl, hmx, hx⟩
      · exact absurd hlt (by omega)
      · exact absurd hlt (by omega)
      obtain ⟨_, _, _, c3, _, hcs⟩ := hx k hlt
      have hlz := hcs.len_le
      have HCS := Lib.hid hcs
      obtain ⟨Z, eZ⟩ : ∃ Z, Z = f k := ⟨_, rfl⟩
      rw [← eZ] at c3 hlz HCS
      have EZ := Lib.hid eZ
      have C3 := Lib.hid c3
      have c3 := cell_below hB c3
      clear eZ hx hcs
      by_cases hbig : 1048576 < Z.len
      · go_wp2_with fail
        go_ret
        exact ⟨BOut.no, hB⟩
      by_cases hbig2 : 1048576 < m + (Z.len : Int)
      · go_wp2_with fail
        go_ret
        exact ⟨BOut.no, hB⟩
      go_wp2_with fail
      go_loopw [3, 5] (fun n i wr => ∃ k : Nat, ∃ m : Int, k ≤ Z.len ∧ i = .int .i64 k ∧ n = .int .i64 m ∧ (0 ≤ m ∧ m ≤ 1048576) ∧ Hid (∀ i, i < k → (Z.f i).s.size ≤ 1048576) ∧ Below w.heap.size w wr) (fun _ i _ => Z.len - (intOf i).toNat)
      case atStart => exact ⟨0, _, Nat.zero_le _, rfl, rfl, ⟨by omega, by omega⟩, Lib.hid fun i hi => absurd hi (by omega), hB⟩
      case round =>
        obtain ⟨ki, mi, hki, rfl, rfl, ⟨hm0i, hm1i⟩, HMi, hBi⟩ := hrel
        have c3 := cell_below hBi C3.out
        by_cases hlti : ki < Z.len
        · rcases HCS.out with ⟨e1, e2, e3⟩ | ⟨xi, _, h0i, _⟩ | ⟨bi, oi, eAi, h0i, hli, hmxi, hxi⟩
          · exact absurd hlti (by omega)
          · exact absurd hlti (by omega)
          obtain ⟨⟨_, _, _, c3i⟩, _, _, _, hsi⟩ := hxi ki hlti
          have c3i := cell_below hBi c3i
          rw [eAi] at c3
          have hsi : (Z.f ki).s.size ≤ 9223372036854775807 := hsi
          have eki : Hid ((Z.f ki).s.size ≤ 1048576 → ∀ i, i < ki + 1 → (Z.f i).s.size ≤ 1048576) := Lib.hid fun hq => snoc_lt HMi.out hq
          obtain ⟨S, eS⟩ : ∃ S, S = (Z.f ki).s := ⟨_, rfl⟩
          rw [← eS] at c3i hsi eki
          clear eS hxi
          by_cases hbig : 1048576 < S.size
          · go_wp2_with fail
            go_ret
            exact ⟨BOut.no, hBi⟩
          by_cases hbig2 : 1048576 < mi + S.size
          · go_wp2_with fail
            go_ret
            exact ⟨BOut.no, hBi⟩
          · go_wp2_with fail
            go_roundw
            case rel => exact ⟨ki + 1, mi + S.size, by omega, by go_num, by go_num, ⟨by omega, by omega⟩, Lib.hid (eki.out (by omega)), hBi⟩
            case measure => simp [intOf]; omega
        · obtain eKi := (show ki = Z.len by omega)
          rw [eKi] at HMi
          have eQ : Hid (∀ i, i < k + 1 → (f i).len ≤ 1048576 ∧ ∀ j, j < (f i).len → ((f i).f j).s.size ≤ 1048576) := Lib.hid (snoc_lt HM.out (by rw [← EZ.out]; exact ⟨by omega, HMi.out⟩))
          clear HMi
          go_wp2_with fail
          go_roundw
          case rel => exact ⟨k + 1, mi, by omega, by go_num, rfl, ⟨by omega, by omega⟩, eQ, hBi⟩
          case measure => simp [intOf]; omega
    · obtain rfl : k = len := by omega
      go_wp2_with fail
      go_ret
      exact ⟨BOut.yes ⟨by omega, HM.out⟩, hB⟩
set_option maxRecDepth 100000 in
set_option maxHeartbeats 4000000 in
theorem zb4_any (a : Option Addr) (len cap : Nat) (f : Nat → RawS) (w : World) (h : IsStmts w a len cap f) :
    Calls Try.prog 22 #[.slice a len cap] w fun e w' => BOut (StmtsIn len f) e ∧ Below w.heap.size w w' := by
  have hlc := h.len_le
  have H := Lib.hid h
  clear h
  by_cases g820 : 1048576 < len
  · go_enter Try.func22, Try.ntmps22
    go_wp2_with fail
    go_ret
    exact ⟨BOut.no, Below.refl _ _⟩
  go_enter Try.func22, Try.ntmps22
  go_wp2_with fail
  go_loopw [3, 4] (fun n i wr => ∃ k : Nat, ∃ m : Int, k ≤ len ∧ i = .int .i64 k ∧ n = .int .i64 m ∧ (0 ≤ m ∧ m ≤ 1048576) ∧ Hid (∀ i, i < k → (f i).len ≤ 1048576 ∧ ∀ j, j < (f i).len → ((f i).f j).s.size ≤ 1048576) ∧ Below w.heap.size w wr) (fun _ i _ => len - (intOf i).toNat)
  case atStart => exact ⟨0, _, Nat.zero_le _, rfl, rfl, ⟨by omega, by omega⟩, Lib.hid fun i hi => absurd hi (by omega), Below.refl _ _⟩
  case round =>
    obtain ⟨k, m, hk, rfl, rfl, ⟨hm0, hm1⟩, HM, hB⟩ := hrel
    by_cases hlt : k < len
    · rcases H.out with ⟨rfl, rfl, rfl⟩ | ⟨x, _, h0, _⟩ | ⟨b, o, rfl, h0, hl, hmx, hx⟩
      · exact absurd hlt (by omega)
      · exact absurd hlt (by omega)
      obtain ⟨_, _, _, c3, _, hcs⟩ := hx k hlt
      have hlz := hcs.len_le
      have HCS := Lib.hid hcs
      obtain ⟨Z, eZ⟩ : ∃ Z, Z = f k := ⟨_, rfl⟩
      rw [← eZ] at c3 hlz HCS
      have EZ := Lib.hid eZ
      have C3 := Lib.hid c3
      have c3 := cell_below hB c3
      clear eZ hx hcs
      by_cases hbig : 1048576 < Z.len
      · go_wp2_with fail
        go_ret
        exact ⟨BOut.no, hB⟩
      by_cases hbig2 : 1048576 < m + (Z.len : Int)
      · go_wp2_with fail
        go_ret
        exact ⟨BOut.no, hB⟩
      go_wp2_with fail
      go_loopw [3, 5] (fun n i wr => ∃ k : Nat, ∃ m : Int, k ≤ Z.len ∧ i = .int .i64 k ∧ n = .int .i64 m ∧ (0 ≤ m ∧ m ≤ 1048576) ∧ Hid (∀ i, i < k → (Z.f i).s.size ≤ 1048576) ∧ Below w.heap.size w wr) (fun _ i _ => Z.len - (intOf i).toNat)
      case atStart => exact ⟨0, _, Nat.zero_le _, rfl, rfl, ⟨by omega, by omega⟩, Lib.hid fun i hi => absurd hi (by omega), hB⟩
      case round =>
        obtain ⟨ki, mi, hki, rfl, rfl, ⟨hm0i, hm1i⟩, HMi, hBi⟩ := hrel
        have c3 := cell_below hBi C3.out
        by_cases hlti : ki < Z.len
        · rcases HCS.out with ⟨e1, e2, e3⟩ | ⟨xi, _, h0i, _⟩ | ⟨bi, oi, eAi, h0i, hli, hmxi, hxi⟩
          · exact absurd hlti (by omega)
          · exact absurd hlti (by omega)
          obtain ⟨⟨_, _, _, c3i⟩, _, _, _, hsi⟩ := hxi ki hlti
          have c3i := cell_below hBi c3i
          rw [eAi] at c3
          have hsi : (Z.f ki).s.size ≤ 9223372036854775807 := hsi
          have eki : Hid ((Z.f ki).s.size ≤ 1048576 → ∀ i, i < ki + 1 → (Z.f i).s.size ≤ 1048576) := Lib.hid fun hq => snoc_lt HMi.out hq
          obtain ⟨S, eS⟩ : ∃ S, S = (Z.f ki).s := ⟨_, rfl⟩
          rw [← eS] at c3i hsi eki
          clear eS hxi
          by_cases hbig : 1048576 < S.size
          · go_wp2_with fail
            go_ret
            exact ⟨BOut.no, hBi⟩
          by_cases hbig2 : 1048576 < mi + S.size
          · go_wp2_with fail
            go_ret
            exact ⟨BOut.no, hBi⟩
          · go_wp2_with fail
            go_roundw
            case rel => exact ⟨ki + 1, mi + S.size, by omega, by go_num, by go_num, ⟨by omega, by omega⟩, Lib.hid (eki.out (by omega)), hBi⟩
            case measure => simp [intOf]; omega
        · obtain eKi := (show ki = Z.len by omega)
          rw [eKi] at HMi
          have eQ : Hid (∀ i, i < k + 1 → (f i).len ≤ 1048576 ∧ ∀ j, j < (f i).len → ((f i).f j).s.size ≤ 1048576) := Lib.hid (snoc_lt HM.out (by rw [← EZ.out]; exact ⟨by omega, HMi.out⟩))
          clear HMi
          go_wp2_with fail
          go_roundw
          case rel => exact ⟨k + 1, mi, by omega, by go_num, rfl, ⟨by omega, by omega⟩, eQ, hBi⟩
          case measure => simp [intOf]; omega
    · obtain rfl : k = len := by omega
      go_wp2_with fail
      go_ret
      exact ⟨BOut.yes ⟨by omega, HM.out⟩, hB⟩
set_option maxRecDepth 100000 in
set_option maxHeartbeats 4000000 in
theorem zb3_any (a : Option Addr) (len cap : Nat) (f : Nat → RawS) (a2 : Option Addr) (len2 cap2 : Nat) (g : Nat → RawC) (w : World) (h : IsStmts w a len cap f) (h2 : IsComs w a2 len2 cap2 g) :
    Calls Try.prog 19 #[.slice a len cap, .slice a2 len2 cap2] w fun e w' => BOut (StmtsIn len f ∧ ComsIn len2 g) e ∧ Below w.heap.size w w' := by
  have hlc := h.len_le
  have hlc2 := h2.len_le
  have H := Lib.hid h
  have H2 := Lib.hid h2
  clear h h2
  by_cases g820 : 1048576 < len
  · go_enter Try.func19, Try.ntmps19
    go_wp2_with fail
    go_ret
    exact ⟨BOut.no, Below.refl _ _⟩
  go_enter Try.func19, Try.ntmps19
  go_wp2_with fail
  go_loopw [5, 6] (fun n i wr => ∃ k : Nat, ∃ m : Int, k ≤ len ∧ i = .int .i64 k ∧ n = .int .i64 m ∧ (0 ≤ m ∧ m ≤ 1048576) ∧ Hid (∀ i, i < k → (f i).len ≤ 1048576 ∧ ∀ j, j < (f i).len → ((f i).f j).s.size ≤ 1048576) ∧ Below w.heap.size w wr) (fun _ i _ => len - (intOf i).toNat)
  case atStart => exact ⟨0, _, Nat.zero_le _, rfl, rfl, ⟨by omega, by omega⟩, Lib.hid fun i hi => absurd hi (by omega), Below.refl _ _⟩
  case round =>
    obtain ⟨k, m, hk, rfl, rfl, ⟨hm0, hm1⟩, HM, hB⟩ := hrel
    by_cases hlt : k < len
    · rcases H.out with ⟨rfl, rfl, rfl⟩ | ⟨x, _, h0, _⟩ | ⟨b, o, rfl, h0, hl, hmx, hx⟩
      · exact absurd hlt (by omega)
      · exact absurd hlt (by omega)
      obtain ⟨_, _, _, c3, _, hcs⟩ := hx k hlt
      have hlz := hcs.len_le
      have HCS := Lib.hid hcs
      obtain ⟨Z, eZ⟩ : ∃ Z, Z = f k := ⟨_, rfl⟩
      rw [← eZ] at c3 hlz HCS
      have EZ := Lib.hid eZ
      have C3 := Lib.hid c3
      have c3 := cell_below hB c3
      clear eZ hx hcs
      by_cases hbig : 1048576 < Z.len
      · go_wp2_with fail
        go_ret
        exact ⟨BOut.no, hB⟩
      by_cases hbig2 : 1048576 < m + (Z.len : Int)
      · go_wp2_with fail
        go_ret
        exact ⟨BOut.no, hB⟩
      go_wp2_with fail
      go_loopw [5, 7] (fun n i wr => ∃ k : Nat, ∃ m : Int, k ≤ Z.len ∧ i = .int .i64 k ∧ n = .int .i64 m ∧ (0 ≤ m ∧ m ≤ 1048576) ∧ Hid (∀ i, i < k → (Z.f i).s.size ≤ 1048576) ∧ Below w.heap.size w wr) (fun _ i _ => Z.len - (intOf i).toNat)
      case atStart => exact ⟨0, _, Nat.zero_le _, rfl, rfl, ⟨by omega, by omega⟩, Lib.hid fun i hi => absurd hi (by omega), hB⟩
      case round =>
        obtain ⟨ki, mi, hki, rfl, rfl, ⟨hm0i, hm1i⟩, HMi, hBi⟩ := hrel
        have c3 := cell_below hBi C3.out
        by_cases hlti : ki < Z.len
        · rcases HCS.out with ⟨e1, e2, e3⟩ | ⟨xi, _, h0i, _⟩ | ⟨bi, oi, eAi, h0i, hli, hmxi, hxi⟩
          · exact absurd hlti (by omega)
          · exact absurd hlti (by omega)
          obtain ⟨⟨_, _, _, c3i⟩, _, _, _, hsi⟩ := hxi ki hlti
          have c3i := cell_below hBi c3i
          rw [eAi] at c3
          have hsi : (Z.f ki).s.size ≤ 9223372036854775807 := hsi
          have eki : Hid ((Z.f ki).s.size ≤ 1048576 → ∀ i, i < ki + 1 → (Z.f i).s.size ≤ 1048576) := Lib.hid fun hq => snoc_lt HMi.out hq
          obtain ⟨S, eS⟩ : ∃ S, S = (Z.f ki).s := ⟨_, rfl⟩
          rw [← eS] at c3i hsi eki
          clear eS hxi
          by_cases hbig : 1048576 < S.size
          · go_wp2_with fail
            go_ret
            exact ⟨BOut.no, hBi⟩
          by_cases hbig2 : 1048576 < mi + S.size
          · go_wp2_with fail
            go_ret
            exact ⟨BOut.no, hBi⟩
          · go_wp2_with fail
            go_roundw
            case rel => exact ⟨ki + 1, mi + S.size, by omega, by go_num, by go_num, ⟨by omega, by omega⟩, Lib.hid (eki.out (by omega)), hBi⟩
            case measure => simp [intOf]; omega
        · obtain eKi := (show ki = Z.len by omega)
          rw [eKi] at HMi
          have eQ : Hid (∀ i, i < k + 1 → (f i).len ≤ 1048576 ∧ ∀ j, j < (f i).len → ((f i).f j).s.size ≤ 1048576) := Lib.hid (snoc_lt HM.out (by rw [← EZ.out]; exact ⟨by omega, HMi.out⟩))
          clear HMi
          go_wp2_with fail
          go_roundw
          case rel => exact ⟨k + 1, mi, by omega, by go_num, rfl, ⟨by omega, by omega⟩, eQ, hBi⟩
          case measure => simp [intOf]; omega
    · obtain rfl : k = len := by omega
      have HS := Lib.hid (show StmtsIn k f from ⟨by omega, HM.out⟩)
      have hB0 := hB
      clear HM hB
      by_cases q1 : 1048576 < len2
      · go_wp2_with fail
        go_ret
        exact ⟨BOut.no, hB0⟩
      by_cases q2 : 1048576 < m + (len2 : Int)
      · go_wp2_with fail
        go_ret
        exact ⟨BOut.no, hB0⟩
      go_wp2_with fail
      go_loopw [5, 8] (fun n i wr => ∃ k : Nat, ∃ m : Int, k ≤ len2 ∧ i = .int .i64 k ∧ n = .int .i64 m ∧ (0 ≤ m ∧ m ≤ 1048576) ∧ Hid (∀ i, i < k → (g i).s.size ≤ 1048576) ∧ Below w.heap.size w wr) (fun _ i _ => len2 - (intOf i).toNat)
      case atStart => exact ⟨0, _, Nat.zero_le _, rfl, rfl, ⟨by omega, by omega⟩, Lib.hid fun i hi => absurd hi (by omega), hB0⟩
      case round =>
        obtain ⟨kl, ml, hkl, rfl, rfl, ⟨hm0l, hm1l⟩, HMl, hBl⟩ := hrel
        by_cases hltl : kl < len2
        · rcases H2.out with ⟨rfl, rfl, rfl⟩ | ⟨xl, _, h0l, _⟩ | ⟨bl, ol, rfl, h0l, hll, hmxl, hxl⟩
          · exact absurd hltl (by omega)
          · exact absurd hltl (by omega)
          obtain ⟨⟨_, _, _, c3l⟩, _, _, _, hsl⟩ := hxl kl hltl
          have c3l := cell_below hBl c3l
          have hsl : (g kl).s.size ≤ 9223372036854775807 := hsl
          have ekl : Hid ((g kl).s.size ≤ 1048576 → ∀ i, i < kl + 1 → (g i).s.size ≤ 1048576) := Lib.hid fun hq => snoc_lt HMl.out hq
          obtain ⟨S, eS⟩ : ∃ S, S = (g kl).s := ⟨_, rfl⟩
          rw [← eS] at c3l hsl ekl
          clear eS hxl
          by_cases hbig : 1048576 < S.size
          · go_wp2_with fail
            go_ret
            exact ⟨BOut.no, hBl⟩
          by_cases hbig2 : 1048576 < ml + S.size
          · go_wp2_with fail
            go_ret
            exact ⟨BOut.no, hBl⟩
          · go_wp2_with fail
            go_roundw
            case rel => exact ⟨kl + 1, ml + S.size, by omega, by go_num, by go_num, ⟨by omega, by omega⟩, Lib.hid (ekl.out (by omega)), hBl⟩
            case measure => simp [intOf]; omega
        · obtain rfl := (show kl = len2 by omega)
          go_wp2_with fail
          go_ret
          exact ⟨BOut.yes ⟨HS.out, by omega, HMl.out⟩, hBl⟩
end Go.Proofs.Ytfeibikakhmecaa
