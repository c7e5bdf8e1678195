/- Raw comments and statements: how many bytes they have. Conditions: the cells. -/
import Derived.Test.YtfeibikakhmecaaCom
import Derived.Test.YtfeibikakhmecaaEnds
import Derived.Handy
import Derived.LoopTactic
import Derived.Deep.QuietTactic
import Derived.BigQuiet
import Derived.Deep.RegionHeld3
namespace Go.Proofs.Ytfeibikakhmecaa
open Go.RowKit
set_option linter.unusedVariables false

theorem cell_below {W w : World} {a : Addr} {v : Value} (hb : Below W.heap.size W w) (h : W.cell? a = some v) : w.cell? a = some v := by
  rw [hb.cell (World.block_lt_of_cell? W a h)]; exact h
theorem drewN_of {B : Nat} {w W : World} {n : Nat} (h : Below B w W) : Below B w (W.drewN n) := h.trans ⟨rfl, rfl, rfl, Nat.le_refl _, fun _ _ => rfl⟩
theorem IsComs.below {W w : World} {a : Option Addr} {n c : Nat} {f : Nat → RawC} (h : IsComs W a n c f) (hb : Below W.heap.size W w) : IsComs w a n c f := by
  rcases h with h | h | ⟨b, o, e, h0, h1, h2, h3⟩
  · exact .inl h
  · exact .inr (.inl h)
  · exact .inr (.inr ⟨b, o, e, h0, h1, h2, fun i hi => ⟨⟨cell_below hb (h3 i hi).1.1, cell_below hb (h3 i hi).1.2.1, cell_below hb (h3 i hi).1.2.2.1, cell_below hb (h3 i hi).1.2.2.2⟩, (h3 i hi).2⟩⟩)
theorem IsStmts.below {W w : World} {a : Option Addr} {n c : Nat} {f : Nat → RawS} (h : IsStmts W a n c f) (hb : Below W.heap.size W w) : IsStmts w a n c f := by
  rcases h with h | h | ⟨b, o, e, h0, h1, h2, h3⟩
  · exact .inl h
  · exact .inr (.inl h)
  · refine .inr (.inr ⟨b, o, e, h0, h1, h2, fun i hi => ?_⟩)
    obtain ⟨k0, k1, k2, k3, hz, hc⟩ := h3 i hi
    exact ⟨cell_below hb k0, cell_below hb k1, cell_below hb k2, cell_below hb k3, hz, hc.below hb⟩
set_option maxHeartbeats 400000 in
theorem zpos_any (o l c : Int) (w : World) (ho : 0 ≤ o ∧ o ≤ 4294967295) (hl : 0 ≤ l ∧ l ≤ 4294967295) (hc : 0 ≤ c ∧ c ≤ 4294967295) :
    Calls Try.prog 15 #[.agg #[.int .u32 o, .int .u32 l, .int .u32 c]] w fun e w' => e = .returned (.agg #[.int .u32 (offCap o), .int .u32 (lcOf l c)]) ∧ Below w.heap.size w w' := by
  go_enter Try.func15, Try.ntmps15
  go_wp2_with fail
  refine (newPos_any o l c _ (by omega) (by omega) (by omega)).mono ?_
  rintro e w1 ⟨rfl, hb1⟩
  obtain ⟨k0, k1, f0, f1, hB⟩ := slot_after hb1
  have hB0 : Below w.heap.size w w1 := below_next (by go_grown) hB
  simp at k0 k1 f0 f1
  clear hb1 hB
  go_wp2_with fail
  refine bodyPost_ret (v := .agg #[.int .u32 (offCap o), .int .u32 (lcOf l c)]) (by simp [results, Try.results15, go_sem, k0, k1]) rfl ⟨rfl, ?_⟩
  exact (hB0.setCell (p := ⟨w.heap.size + 1, 0, none⟩) (by simp) _).setCell (p := ⟨w.heap.size + 1, 1, none⟩) (by simp) _
/-- what zzBytesComments adds up, from comment i on, m of them left -/
def cgo (f : Nat → RawC) : Nat → Nat → Int → Int
  | 0, _, n => n
  | m + 1, i, n => if 1048576 < n + (f i).s.size then n + (f i).s.size else cgo f m (i + 1) (n + (f i).s.size)
set_option maxRecDepth 100000 in
set_option maxHeartbeats 1000000 in
theorem zbc_any (a : Option Addr) (len cap : Nat) (f : Nat → RawC) (w : World) (h : IsComs w a len cap f) (hn : len ≤ 1048576) (hz : ∀ i, i < len → (f i).s.size ≤ 1048576) :
    Calls Try.prog 26 #[.slice a len cap] w fun e w' => e = .returned (.int .i64 (cgo f len 0 (len * 8))) ∧ Below w.heap.size w w' := by
  have H := Lib.hid h
  have HZ := Lib.hid hz
  clear h hz
  go_enter Try.func26, Try.ntmps26
  go_wp2_with fail
  go_loopw [3, 10] (fun n i wr => ∃ k : Nat, ∃ m : Int, k ≤ len ∧ i = .int .i64 k ∧ n = .int .i64 m ∧ Hid (0 ≤ m ∧ m ≤ 8388608 ∧ cgo f (len - k) k m = cgo f len 0 (len * 8)) ∧ Below w.heap.size w wr) (fun _ i _ => len - (intOf i).toNat)
  case atStart => exact ⟨0, _, Nat.zero_le _, rfl, rfl, Lib.hid ⟨by omega, by omega, rfl⟩, Below.refl _ _⟩
  case round =>
    obtain ⟨k, m, hk, rfl, rfl, HM, hB⟩ := hrel
    by_cases hlt : k < len
    · rcases H.out with ⟨rfl, rfl, rfl⟩ | ⟨x, _, h0, _⟩ | ⟨b, o, rfl, h0, hl, hm, hx⟩
      · exact absurd hlt (by omega)
      · exact absurd hlt (by omega)
      obtain ⟨⟨_, _, _, c3⟩, _, _, _, hs⟩ := hx k hlt
      have c3 := cell_below hB c3
      obtain ⟨hm0, hm1, hc⟩ := HM.out
      have hsz := HZ.out k hlt
      have e1 : len - k = (len - (k + 1)) + 1 := by omega
      rw [e1, cgo] at hc
      have HC := Lib.hid hc
      clear hs hx hc e1
      by_cases hbig : 1048576 < m + (f k).s.size
      · go_wp2_with fail
        go_ret
        have hc := HC.out
        rw [if_pos hbig] at hc
        exact ⟨by simp [hc], hB⟩
      · go_wp2_with fail
        go_roundw
        case rel => exact ⟨k + 1, m + (f k).s.size, by omega, by go_num, by go_num, Lib.hid ⟨by omega, by omega, by have hc := HC.out; rw [if_neg (by omega)] at hc; exact hc⟩, hB⟩
        case measure => simp [intOf]; omega
    · obtain rfl : k = len := by omega
      go_wp2_with fail
      go_ret
      have hc := HM.out.2.2
      rw [Nat.sub_self, cgo] at hc
      exact ⟨by simp [hc], hB⟩
/-- .. and zzBytesStmts -/
def sgo (f : Nat → RawS) : Nat → Nat → Int → Int
  | 0, _, n => n
  | m + 1, i, n => if 1048576 < (f i).len then 1048577 else if 1048576 < n + cgo (f i).f (f i).len 0 ((f i).len * 8) then n + cgo (f i).f (f i).len 0 ((f i).len * 8) else sgo f m (i + 1) (n + cgo (f i).f (f i).len 0 ((f i).len * 8))
theorem cgo_in {f : Nat → RawC} {len : Nat} (hz : ∀ i, i < len → (f i).s.size ≤ 1048576) : ∀ (m i : Nat) (n : Int), m + i = len → 0 ≤ n → n ≤ 8388608 → 0 ≤ cgo f m i n ∧ cgo f m i n ≤ 9437184
  | 0, i, n, _, h0, h1 => by rw [cgo]; omega
  | m + 1, i, n, he, h0, h1 => by
    have := hz i (by omega)
    rw [cgo]
    split
    · omega
    · exact cgo_in hz m (i + 1) _ (by omega) (by omega) (by omega)
set_option maxRecDepth 100000 in
set_option maxHeartbeats 1000000 in
theorem zbs_any (a : Option Addr) (len cap : Nat) (f : Nat → RawS) (w : World) (h : IsStmts w a len cap f) (hn : len ≤ 65536) (hz : ∀ i, i < len → (f i).len ≤ 1048576 ∧ ∀ j, j < (f i).len → ((f i).f j).s.size ≤ 1048576) :
    Calls Try.prog 25 #[.slice a len cap] w fun e w' => e = .returned (.int .i64 (sgo f len 0 (len * 8))) ∧ Below w.heap.size w w' := by
  have H := Lib.hid h
  have HZ := Lib.hid hz
  clear h hz
  go_enter Try.func25, Try.ntmps25
  go_wp2_with fail
  go_loopw [3, 10] (fun n i wr => ∃ k : Nat, ∃ m : Int, k ≤ len ∧ i = .int .i64 k ∧ n = .int .i64 m ∧ Hid (0 ≤ m ∧ m ≤ 1048576 ∧ sgo f (len - k) k m = sgo f len 0 (len * 8)) ∧ Below w.heap.size w wr) (fun _ i _ => len - (intOf i).toNat)
  case atStart => exact ⟨0, _, Nat.zero_le _, rfl, rfl, Lib.hid ⟨by omega, by omega, rfl⟩, Below.refl _ _⟩
  case round =>
    obtain ⟨k, m, hk, rfl, rfl, HM, hB⟩ := hrel
    by_cases hlt : k < len
    · rcases H.out with ⟨rfl, rfl, rfl⟩ | ⟨x, _, h0, _⟩ | ⟨b, o, rfl, h0, hl, hm, hx⟩
      · exact absurd hlt (by omega)
      · exact absurd hlt (by omega)
      obtain ⟨_, _, _, c3, _, hcs⟩ := hx k hlt
      have c3 := cell_below hB c3
      have hcs := hcs.below hB
      obtain ⟨hm0, hm1, hc⟩ := HM.out
      obtain ⟨hl1, hl2⟩ := HZ.out k hlt
      have e1 : len - k = (len - (k + 1)) + 1 := by omega
      rw [e1, sgo, if_neg (by omega)] at hc
      have hin := cgo_in hl2 (f k).len 0 ((f k).len * 8) (by omega) (by omega) (by omega)
      have HC := Lib.hid hc
      have HCS := Lib.hid hcs
      have HL := Lib.hid hl2
      generalize (f k).a = A at *
      clear hx hc e1 hcs hl2
      go_wp2_with fail
      refine (zbc_any _ _ _ _ _ HCS.out (by omega) HL.out).mono ?_
      rintro e w2 ⟨rfl, hb2⟩
      have hB2 := below_next hB hb2
      clear hb2 hB c3
      by_cases hbig : 1048576 < m + cgo (f k).f (f k).len 0 ((f k).len * 8)
      · go_wp2_with fail
        go_ret
        have hc := HC.out
        rw [if_pos hbig] at hc
        exact ⟨by simp [hc], hB2⟩
      · go_wp2_with fail
        go_roundw
        case rel => exact ⟨k + 1, m + cgo (f k).f (f k).len 0 ((f k).len * 8), by omega, by go_num, by go_num, Lib.hid ⟨by omega, by omega, by have hc := HC.out; rw [if_neg (by omega)] at hc; exact hc⟩, hB2⟩
        case measure => simp [intOf]; omega
    · obtain rfl : k = len := by omega
      go_wp2_with fail
      go_ret
      have hc := HM.out.2.2
      rw [Nat.sub_self, sgo] at hc
      exact ⟨by simp [hc], hB⟩
set_option maxRecDepth 100000 in
set_option maxHeartbeats 1000000 in
theorem sgo_in {f : Nat → RawS} {len : Nat} (hz : ∀ i, i < len → (f i).len ≤ 1048576 ∧ ∀ j, j < (f i).len → ((f i).f j).s.size ≤ 1048576) : ∀ (m i : Nat) (n : Int), m + i = len → 0 ≤ n → n ≤ 1048576 → 0 ≤ sgo f m i n ∧ sgo f m i n ≤ 20000000
  | 0, i, n, _, h0, h1 => by rw [sgo]; omega
  | m + 1, i, n, he, h0, h1 => by
    obtain ⟨hl, hz2⟩ := hz i (by omega)
    have := cgo_in hz2 (f i).len 0 ((f i).len * 8) (by omega) (by omega) (by omega)
    rw [sgo]
    split
    · omega
    · split
      · omega
      · exact sgo_in hz m (i + 1) _ (by omega) (by omega) (by omega)
def TbOut (len n : Nat) (e : Ending) : Prop := ∃ b : Bool, e = .returned (.bool b) ∧ (b = false → len ≤ 65536 ∧ n ≤ 65536)
set_option maxRecDepth 100000 in
set_option maxHeartbeats 2000000 in
theorem ztb_any (a c : Option Addr) (len cap n m : Nat) (f : Nat → RawS) (g : Nat → RawC) (s : ByteArray) (w : World) (h : IsStmts w a len cap f) (h2 : IsComs w c n m g) (hs : s.size ≤ 1048576)
    (hz : ∀ i, i < len → (f i).len ≤ 1048576 ∧ ∀ j, j < (f i).len → ((f i).f j).s.size ≤ 1048576) (hz2 : ∀ i, i < n → (g i).s.size ≤ 1048576) (hlen : len ≤ 1048576) (hn : n ≤ 1048576) :
    Calls Try.prog 8 #[.slice a len cap, .slice c n m, .string s] w fun e w' => TbOut len n e ∧ Below w.heap.size w w' := by
  have H := Lib.hid h
  have H2 := Lib.hid h2
  have HZ := Lib.hid hz
  have HZ2 := Lib.hid hz2
  clear h h2 hz hz2
  by_cases g1 : 65536 < len
  · go_enter Try.func8, Try.ntmps8
    go_wp2_with fail
    go_ret
    exact ⟨⟨_, rfl, fun h => absurd h (by simp)⟩, Below.refl _ _⟩
  by_cases g2 : 65536 < n
  · go_enter Try.func8, Try.ntmps8
    go_wp2_with fail
    go_ret
    exact ⟨⟨_, rfl, fun h => absurd h (by simp)⟩, Below.refl _ _⟩
  have k1 := sgo_in HZ.out len 0 (len * 8) (by omega) (by omega) (by omega)
  have k2 := cgo_in HZ2.out n 0 (n * 8) (by omega) (by omega) (by omega)
  go_enter Try.func8, Try.ntmps8
  go_wp2_with fail
  refine (zbs_any _ _ _ _ _ (H.out.below (Below.refl _ _)) (by omega) HZ.out).mono ?_
  rintro e w1 ⟨rfl, hb1⟩
  have H1 := Lib.hid (H2.out.below hb1)
  go_wp2_with fail
  refine (zbc_any _ _ _ _ _ H1.out (by omega) HZ2.out).mono ?_
  rintro e w2 ⟨rfl, hb2⟩
  have hB := below_next hb1 hb2
  clear hb1 hb2
  go_wp2_with fail
  trace_state
  go_ret
  exact ⟨⟨_, rfl, fun _ => ⟨by omega, by omega⟩⟩, hB⟩
end Go.Proofs.Ytfeibikakhmecaa
