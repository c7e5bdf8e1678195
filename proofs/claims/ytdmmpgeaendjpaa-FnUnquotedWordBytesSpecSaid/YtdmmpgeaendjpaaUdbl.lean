/- What unquotedWordPart appends for a double-quoted part. Conditions: sizes as the law bounds them. -/
import Derived.Test.YtdmmpgeaendjpaaUpart
namespace Go.Proofs.Ytdmmpgeaendjpaa
open Go.RowKit
set_option linter.unusedVariables false
set_option linter.unusedSimpArgs false

/-- m leading expansions give nothing, the literal behind them its bytes -/
def Doing (m k : Nat) (s : ByteArray) (done : List Int) : Prop := (k ≤ m ∧ done = []) ∨ (m < k ∧ done = bl s)
theorem Grow.other {E : TypeId} {w0 w : World} {g0 : Option Nat} {v : Value} {n : Nat} {xs : List Value} {b : Nat} (h : Grow E w0 g0 w v n xs) (hb : b < w0.heap.size) (hne : some b ≠ g0) : some b ≠ v.ownBlock := by
  rcases h.2 with ⟨e, _⟩ | ho
  · rw [e]; exact hne
  · rcases own_in ho with h | ⟨g, h, hl, _⟩
    · rw [h]; simp
    · rw [h]; intro e; injection e; omega
set_option maxRecDepth 100000 in
set_option maxHeartbeats 4000000 in
theorem up_dbl (P : Option Addr) (v : Value) (xs : List Int) (d g b m : Nat) (f : Nat → Value) (s : ByteArray) (quotes : Bool) (w : World) (hs : s.size ≤ 1048576) (hxs : xs.length ≤ 1048576) (hm : m ≤ 1) (hown : w.ownsRow 0 5 1 v xs.length (bc xs))
    (hd : w.cell? ⟨d, 5, none⟩ = some (.slice (some ⟨g, 0, none⟩) (m + 1) (m + 1))) (hf : ∀ j, j < m → w.cell? ⟨g, j, none⟩ = some (.iface 92 (f j))) (hl : w.cell? ⟨g, m, none⟩ = some (.iface 83 (.pointer (some ⟨b, 0, none⟩)))) (hc : w.cell? ⟨b, 4, none⟩ = some (.string s))
    (hng : some g ≠ v.ownBlock) (hnb : some b ≠ v.ownBlock) :
    Calls Try.prog 29 #[.pointer P, v, .iface 89 (.pointer (some ⟨d, 0, none⟩)), .bool quotes] w (UPost w v xs (bl s) true) := by
  have hdz : d < w.heap.size := by have := World.block_lt_of_cell? _ _ hd; simpa using this
  have hgz : g < w.heap.size := by have := World.block_lt_of_cell? _ _ hl; simpa using this
  have hbz : b < w.heap.size := by have := World.block_lt_of_cell? _ _ hc; simpa using this
  have HG := Lib.hid (Grow.start hown)
  have HL := Lib.hid hl
  have HC := Lib.hid hc
  have HF := Lib.hid hf
  have HNG := Lib.hid hng
  have HNB := Lib.hid hnb
  clear hown hf hl hc hng hnb
  have ta := as_WordPart_DblQuoted_Lit
  have tb := as_WordPart_DblQuoted_SglQuoted
  have tc := as_WordPart_DblQuoted_DblQuoted
  go_enter Try.func29, Try.ntmps29
  go_wp2_with fail
  clear ta tb tc
  obtain ⟨g0, eg⟩ : ∃ g0, v.ownBlock = g0 := ⟨_, rfl⟩
  rw [eg] at HG HNG HNB
  have Eg := Lib.hid eg
  clear eg
  go_loopw [1, 82] (fun vr i wr => ∃ v1 : Value, ∃ k : Nat, ∃ done : List Int, v1 = vr ∧ k ≤ m + 1 ∧ i = .int .i64 k ∧ Doing m k s done ∧ Hid (Grow 5 w g0 wr v1 (xs ++ done).length (bc (xs ++ done)))) (fun _ i _ => m + 1 - (intOf i).toNat)
  case atStart => exact ⟨v, 0, [], rfl, by omega, rfl, .inl ⟨by omega, rfl⟩, Lib.hid (by simpa using HG.out)⟩
  case round =>
    obtain ⟨v1, k, done, rfl, hk, rfl, hdo, HG1⟩ := hrel
    clear HG
    have hzz := HG1.out.1.size
    have hgw : ∀ o, wr.cell? ⟨g, o, none⟩ = w.cell? ⟨g, o, none⟩ := fun o => World.cell?_of_block (HG1.out.1.block g hgz HNG.out)
    have HGW := Lib.hid hgw
    have HCB := Lib.hid (show wr.cell? ⟨b, 4, none⟩ = some (.string s) by rw [World.cell?_of_block (HG1.out.1.block b hbz HNB.out)]; exact HC.out)
    have hgz2 : g < wr.heap.size := by omega
    clear hgw
    by_cases hlt : k < m
    · have e : done = [] := by rcases hdo with ⟨_, h⟩ | ⟨h, _⟩; exact h; omega
      subst e
      have c1 : wr.cell? ⟨g, k, none⟩ = some (.iface 92 (f k)) := by rw [HGW.out]; exact HF.out k hlt
      have HO := Lib.hid HG1.out.owns
      go_wp2_with (go_at_call 29; refine (up_pe P v1 (xs ++ []) (f k) true _ HO.out).mono ?_; rintro e w2 ⟨v2, rfl, hG2⟩; have H2 := Lib.hid (HG1.out.trans hG2); clear hG2)
      go_roundw
      case rel => exact ⟨_, k + 1, [], rfl, by omega, by go_num, .inl ⟨by omega, rfl⟩, Lib.hid (by have := H2.out; simpa using this)⟩
      case measure => simp [intOf]; omega
    · by_cases hlt2 : k = m
      · subst hlt2
        have e : done = [] := by rcases hdo with ⟨_, h⟩ | ⟨h, _⟩; exact h; omega
        subst e
        have c1 : wr.cell? ⟨g, k, none⟩ = some (.iface 83 (.pointer (some ⟨b, 0, none⟩))) := by rw [HGW.out]; exact HL.out
        have HO := Lib.hid HG1.out.owns
        have HNE := Lib.hid (HG1.out.other hbz HNB.out)
        go_wp2_with (go_at_call 29; refine (up_litq P v1 (xs ++ []) b s _ hs (by simp; omega) HO.out HCB.out HNE.out).mono ?_; rintro e w2 ⟨v2, rfl, hG2⟩; have H2 := Lib.hid (HG1.out.trans hG2); clear hG2)
        go_roundw
        case rel => exact ⟨_, k + 1, bl s, rfl, by omega, by go_num, .inr ⟨by omega, rfl⟩, Lib.hid (by have := H2.out; simpa using this)⟩
        case measure => simp [intOf]
      · obtain rfl : k = m + 1 := by omega
        have e : done = bl s := by rcases hdo with ⟨h, _⟩ | ⟨_, h⟩ <;> first | exact h | omega
        subst e
        clear hlt hlt2
        go_wp2_with fail
        go_ret2
        exact ⟨_, rfl, by rw [Eg.out]; exact HG1.out⟩
end Go.Proofs.Ytdmmpgeaendjpaa
