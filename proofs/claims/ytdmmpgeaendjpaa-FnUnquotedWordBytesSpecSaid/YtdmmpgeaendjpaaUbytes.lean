/- What unquotedWordBytes returns for the law's word, and how the law compares bytes. Conditions: sizes as the law bounds them. -/
import Derived.Test.YtdmmpgeaendjpaaUword
import Derived.Deep.LoopGhost
namespace Go.Proofs.Ytdmmpgeaendjpaa
open Go.RowKit
set_option linter.unusedVariables false
set_option linter.unusedSimpArgs false

/-- unquotedWordPart at a part that was there before the buffer -/
theorem up_part2 (K : Int) (s : ByteArray) (x : Value) (P : Option Addr) (v : Value) (xs : List Int) (w0 w : World) (hs : s.size ≤ 1048576) (hxs : xs.length ≤ 1048576) (hown : w.ownsRow 0 5 1 v xs.length (bc xs)) (hp : PartV 0 K s x w0) (hb0 : Below w0.heap.size w0 w) (hne : ∀ b, b < w0.heap.size → some b ≠ v.ownBlock) :
    Calls Try.prog 29 #[.pointer P, v, x, .bool false] w (UPost w v xs (mbytes K s false) (mquote K s false)) := by
  have lt : ∀ b o u, w0.cell? ⟨b, o, none⟩ = some u → some b ≠ v.ownBlock := fun b o u hc => hne b (by have := World.block_lt_of_cell? _ _ hc; simpa using this)
  rcases hp with ⟨rfl, b, hl, rfl, c⟩ | ⟨rfl, b, hl, rfl, c⟩ | ⟨rfl, p, rfl⟩ | ⟨e, e3, d, g, b, m, f, hd, hg, hb, hm, rfl, c1, c2, c3, c4⟩
  · exact up_lit P v xs b s w hs (by omega) hown (cell_below hb0 c) (lt _ _ _ c)
  · have h := up_sgl P v xs b s false w hs (by omega) hown (cell_below hb0 c)
    simpa [mbytes, mquote] using h
  · exact up_pe P v xs p false w hown
  · have h := up_dbl P v xs d g b m f s false w hs hxs hm hown (cell_below hb0 c1) (fun j hj => cell_below hb0 (c2 j hj)) (cell_below hb0 c3) (cell_below hb0 c4) (lt _ _ _ c3) (lt _ _ _ c4)
    simpa [mbytes, mquote, e, e3] using h
theorem Grow.bel {E : TypeId} {w0 w : World} {v : Value} {n : Nat} {xs : List Value} (h : Grow E w0 none w v n xs) : Below w0.heap.size w0 w := (Below.refl _ _).grown h.1 (Nat.le_refl _) (by simp)
theorem Grow.new {E : TypeId} {w0 w : World} {v : Value} {n : Nat} {xs : List Value} (h : Grow E w0 none w v n xs) : ∀ b, b < w0.heap.size → some b ≠ v.ownBlock := fun b hb => h.other hb (by simp)
def YPost (w : World) (xs : List Int) (q : Bool) (e : Ending) (w' : World) : Prop := ∃ v, e = .returned (.tuple #[v, .bool q]) ∧ Grow 5 w none w' v xs.length (bc xs)
set_option maxRecDepth 100000 in
set_option maxHeartbeats 4000000 in
theorem ub_any (P : Option Addr) (b n : Nat) (f : Nat → ByteArray) (ks : Nat → Int) (w : World) (hw : UWord f ks n b w) (hn : n ≤ 65536) (ht : stot f n ≤ 1048576) :
    Calls Try.prog 28 #[.pointer P, .pointer (some ⟨b, 0, none⟩)] w (YPost w (allb f ks n) (lastq f ks n)) := by
  obtain ⟨g, c0, hF⟩ := hw
  have hz : b < w.heap.size := by have := World.block_lt_of_cell? _ _ c0; simpa using this
  have HC0 := Lib.hid c0
  have HF := Lib.hid hF
  clear hF c0
  obtain ⟨i0, hi, hz0, hz1, hz2⟩ := info_parts infoB
  have WI := Lib.hid (And.intro hi (And.intro hz1 hz2))
  have WZ := Lib.hid hz0
  clear hi hz0 hz1 hz2
  go_enter Try.func28, Try.ntmps28
  go_wp2_with (first | (at_make; (refine wpList_make_own _ rfl _ _ 22 rfl w.heap.size 5 i0 (.int .u8 0) 1 Try.underlying22 WI.out.1 WZ.out WI.out.2.1 _ _ _ 4 rfl rfl rfl (by rw [WI.out.2.2]; omega) (by unfold maxLen; omega) (Nat.le_refl _) ?_); intro w3 hown hgrow; have HG := Lib.hid (show Grow 5 w none w3 _ 0 [] from ⟨hgrow, .inr hown⟩); have c0 := cell_below HG.out.bel HC0.out; have hz3 := HG.out.bel.size; clear hown hgrow))
  go_loopw [6, 7, 16] (fun vr q i wr => ∃ v1 : Value, ∃ k : Nat, v1 = vr ∧ k ≤ n ∧ i = .int .i64 k ∧ q = .bool (lastq f ks k) ∧ Hid (Grow 5 w none wr v1 (allb f ks k).length (bc (allb f ks k)))) (fun _ _ i _ => n - (intOf i).toNat)
  case atStart => exact ⟨_, 0, rfl, Nat.zero_le _, rfl, rfl, HG⟩
  case round =>
    obtain ⟨v1, k, rfl, hk, rfl, rfl, HG1⟩ := hrel
    clear HG
    have hbel := HG1.out.bel
    by_cases hlt : k < n
    · obtain ⟨x, hx, hp⟩ := HF.out k hlt
      have c1 := cell_below hbel hx
      have hle := stot_le f hlt
      have hal := allb_len f ks k
      have HO := Lib.hid HG1.out.owns
      have HB := Lib.hid hbel
      have HP := Lib.hid hp
      have hgz : g < wr.heap.size := by have := World.block_lt_of_cell? _ _ c1; simpa using this
      clear hbel hp hx c0
      go_wp2_with (go_at_call 29; refine (up_part2 (ks k % 5) (f k) x P v1 (allb f ks k) w _ (by omega) (by omega) HO.out HP.out HB.out HG1.out.new).mono ?_; rintro e w2 ⟨v2, rfl, hG2⟩; have H2 := Lib.hid (HG1.out.trans hG2); clear hG2)
      go_roundw
      case rel => exact ⟨_, k + 1, rfl, by omega, by go_num, rfl, H2⟩
      case measure => simp [intOf]; omega
    · obtain rfl : k = n := by omega
      clear hlt
      go_wp2_with fail
      go_ret2
      exact ⟨_, rfl, HG1.out⟩
set_option maxRecDepth 100000 in
set_option maxHeartbeats 1000000 in
theorem zub_any (P : Option Addr) (b n : Nat) (f : Nat → ByteArray) (ks : Nat → Int) (w : World) (hw : UWord f ks n b w) (hn : n ≤ 65536) (ht : stot f n ≤ 1048576) :
    Calls Try.prog 13 #[.pointer P, .pointer (some ⟨b, 0, none⟩)] w (YPost w (allb f ks n) (lastq f ks n)) := by
  have H := Lib.hid (ub_any P b n f ks w hw hn ht)
  clear hw
  go_enter Try.func13, Try.ntmps13
  go_wp2_with (go_at_call 28; refine H.out.mono ?_; rintro e w2 ⟨v2, rfl, hG2⟩; have H2 := Lib.hid hG2; clear hG2)
  go_ret2
  exact ⟨_, rfl, H2.out⟩
set_option maxRecDepth 100000 in
set_option maxHeartbeats 2000000 in
theorem sb_any (A C : Option Addr) (n c d : Nat) (f : Nat → Int) (w : World) (hn : n ≤ 1048576) (h1 : RowOf .u8 w A n f) (h2 : RowOf .u8 w C n f) :
    Calls Try.prog 15 #[.slice A n c, .slice C n d] w fun e w' => e = .returned (.bool true) ∧ Below w.heap.size w w' := by
  have H1 := Lib.hid h1
  have H2 := Lib.hid h2
  clear h1 h2
  have hnn : ((n : Int) != (n : Int)) = false := by simp
  go_enter Try.func15, Try.ntmps15
  go_wp2_with fail
  go_loopw [5] (fun i wr => ∃ k : Nat, k ≤ n ∧ i = .int .i64 k ∧ Below w.heap.size w wr) (fun i _ => n - (intOf i).toNat)
  case atStart => exact ⟨0, Nat.zero_le _, rfl, Below.refl _ _⟩
  case round =>
    obtain ⟨k, hk, rfl, hbw⟩ := hrel
    by_cases hlt : k < n
    · obtain ⟨g5, e5, c5'⟩ := H1.out.below hbw k hlt
      obtain ⟨ga, ea, ca⟩ := H2.out.below hbw k hlt
      obtain ⟨x, hx⟩ : ∃ x, f k = x := ⟨_, rfl⟩
      rw [hx] at c5' ca
      have hcc : (x != x) = false := by simp
      have HBW := Lib.hid hbw
      clear hbw hx
      subst e5 ea
      go_wp2_with fail
      go_quiet (fail)
      go_wp2_with fail
      go_roundw
      case rel => exact ⟨k + 1, by omega, by go_num, drewN_of HBW.out⟩
      case measure => simp [intOf]; omega
    · obtain rfl : k = n := by omega
      go_wp2_with fail
      go_ret
      exact ⟨rfl, hbw⟩
end Go.Proofs.Ytdmmpgeaendjpaa
