/- The five kinds of parts that the law builds, and what unquotedWordPart makes of each. Conditions: sizes as the law bounds them. -/
import Derived.Test.YtdmmpgeaendjpaaUdbl
namespace Go.Proofs.Ytdmmpgeaendjpaa
open Go.RowKit
set_option linter.unusedVariables false
set_option linter.unusedSimpArgs false

/-- x is a part of kind K that bears s, in blocks from lo on -/
def PartV (lo : Nat) (K : Int) (s : ByteArray) (x : Value) (W : World) : Prop :=
  (K = 0 ∧ ∃ b, lo ≤ b ∧ x = .iface 83 (.pointer (some ⟨b, 0, none⟩)) ∧ W.cell? ⟨b, 4, none⟩ = some (.string s)) ∨
  (K = 1 ∧ ∃ b, lo ≤ b ∧ x = .iface 86 (.pointer (some ⟨b, 0, none⟩)) ∧ W.cell? ⟨b, 5, none⟩ = some (.string s)) ∨
  (K = 3 ∧ ∃ p, x = .iface 92 p) ∨
  (¬ K = 0 ∧ ¬ K = 3 ∧ ∃ d g b m, ∃ f : Nat → Value, lo ≤ d ∧ lo ≤ g ∧ lo ≤ b ∧ m ≤ 1 ∧ x = .iface 89 (.pointer (some ⟨d, 0, none⟩)) ∧ W.cell? ⟨d, 5, none⟩ = some (.slice (some ⟨g, 0, none⟩) (m + 1) (m + 1)) ∧ (∀ j, j < m → W.cell? ⟨g, j, none⟩ = some (.iface 92 (f j))) ∧ W.cell? ⟨g, m, none⟩ = some (.iface 83 (.pointer (some ⟨b, 0, none⟩))) ∧ W.cell? ⟨b, 4, none⟩ = some (.string s))
theorem PartV.keep {lo : Nat} {K : Int} {s : ByteArray} {x : Value} {W w : World} (h : PartV lo K s x W) (hk : ∀ b o v, lo ≤ b → W.cell? ⟨b, o, none⟩ = some v → w.cell? ⟨b, o, none⟩ = some v) : PartV lo K s x w := by
  rcases h with ⟨e, b, hl, hx, c⟩ | ⟨e, b, hl, hx, c⟩ | h | ⟨e, e3, d, g, b, m, f, hd, hg, hb, hm, hx, c1, c2, c3, c4⟩
  · exact .inl ⟨e, b, hl, hx, hk _ _ _ hl c⟩
  · exact .inr (.inl ⟨e, b, hl, hx, hk _ _ _ hl c⟩)
  · exact .inr (.inr (.inl h))
  · exact .inr (.inr (.inr ⟨e, e3, d, g, b, m, f, hd, hg, hb, hm, hx, hk _ _ _ hd c1, fun j hj => hk _ _ _ hg (c2 j hj), hk _ _ _ hg c3, hk _ _ _ hb c4⟩))
theorem PartV.low {lo l : Nat} {K : Int} {s : ByteArray} {x : Value} {W : World} (h : PartV lo K s x W) (hl0 : l ≤ lo) : PartV l K s x W := by
  rcases h with ⟨e, b, hl, r⟩ | ⟨e, b, hl, r⟩ | h | ⟨e, e3, d, g, b, m, f, hd, hg, hb, r⟩
  · exact .inl ⟨e, b, by omega, r⟩
  · exact .inr (.inl ⟨e, b, by omega, r⟩)
  · exact .inr (.inr (.inl h))
  · exact .inr (.inr (.inr ⟨e, e3, d, g, b, m, f, by omega, by omega, by omega, r⟩))
theorem PartV.below {lo : Nat} {K : Int} {s : ByteArray} {x : Value} {W w : World} (h : PartV lo K s x W) (hb : Below W.heap.size W w) : PartV lo K s x w :=
  h.keep fun b o v _ hc => cell_below hb hc
theorem up_part (lo : Nat) (K : Int) (s : ByteArray) (x : Value) (P : Option Addr) (v : Value) (xs : List Int) (quotes : Bool) (w : World) (hs : s.size ≤ 1048576) (hxs : xs.length ≤ 1048576) (hown : w.ownsRow 0 5 1 v xs.length (bc xs)) (hp : PartV lo K s x w) (hne : ∀ b, lo ≤ b → some b ≠ v.ownBlock) :
    Calls Try.prog 29 #[.pointer P, v, x, .bool quotes] w (UPost w v xs (mbytes K s quotes) (mquote K s quotes)) := by
  rcases hp with ⟨rfl, b, hl, rfl, c⟩ | ⟨rfl, b, hl, rfl, c⟩ | ⟨rfl, p, rfl⟩ | ⟨e, e3, d, g, b, m, f, hd, hg, hb, hm, rfl, c1, c2, c3, c4⟩
  · cases quotes
    · exact up_lit P v xs b s w hs (by omega) hown c (hne b hl)
    · exact up_litq P v xs b s w hs (by omega) hown c (hne b hl)
  · have h := up_sgl P v xs b s quotes w hs (by omega) hown c
    simpa [mbytes, mquote] using h
  · exact up_pe P v xs p quotes w hown
  · have h := up_dbl P v xs d g b m f s quotes w hs hxs hm hown c1 c2 c3 c4 (hne g hg) (hne b hb)
    simpa [mbytes, mquote, e, e3] using h
def BPost (w : World) (K : Int) (s : ByteArray) (e : Ending) (w' : World) : Prop := ∃ x, e = .returned x ∧ PartV w.heap.size K s x w' ∧ Below w.heap.size w w'
set_option maxRecDepth 100000 in
set_option maxHeartbeats 4000000 in
theorem bp_any (kind : Int) (s : ByteArray) (w : World) (hk : 0 ≤ kind ∧ kind ≤ 255) : Calls Try.prog 18 #[.int .u8 kind, .string s] w (BPost w (kind % 5) s) := by
  obtain ⟨K, eK⟩ : ∃ K, kind % 5 = K := ⟨_, rfl⟩
  have hK : K = 0 ∨ K = 1 ∨ K = 2 ∨ K = 3 ∨ K = 4 := by omega
  rw [eK]
  rcases hK with rfl | rfl | rfl | rfl | rfl
  · have e0 : (kind % 5 == 0) = true := by simp [eK]
    clear eK
    go_enter Try.func18, Try.ntmps18
    go_wp2_with fail
    go_ret
    exact ⟨_, rfl, .inl ⟨rfl, _, Nat.le_refl _, rfl, by simp [go_sem]⟩, by go_grown⟩
  · have e0 : (kind % 5 == 0) = false := by simp [eK]
    have e1 : (kind % 5 == 1) = true := by simp [eK]
    clear eK
    go_enter Try.func18, Try.ntmps18
    go_wp2_with fail
    go_ret
    exact ⟨_, rfl, .inr (.inl ⟨rfl, _, Nat.le_refl _, rfl, by simp [go_sem]⟩), by go_grown⟩
  · have e0 : (kind % 5 == 0) = false := by simp [eK]
    have e1 : (kind % 5 == 1) = false := by simp [eK]
    have e2 : (kind % 5 == 2) = true := by simp [eK]
    clear eK
    go_enter Try.func18, Try.ntmps18
    go_wp2_with fail
    go_ret
    exact ⟨_, rfl, .inr (.inr (.inr ⟨by decide, by decide, w.heap.size + 1 + 1, w.heap.size + 1, w.heap.size, 0, fun _ => undef, by omega, by omega, by omega, by omega, rfl, by simp [go_sem], fun j hj => absurd hj (by omega), by simp [go_sem], by simp [go_sem]⟩)), by go_grown⟩
  · have e0 : (kind % 5 == 0) = false := by simp [eK]
    have e1 : (kind % 5 == 1) = false := by simp [eK]
    have e2 : (kind % 5 == 2) = false := by simp [eK]
    have e3 : (kind % 5 == 3) = true := by simp [eK]
    clear eK
    go_enter Try.func18, Try.ntmps18
    go_wp2_with fail
    go_ret
    exact ⟨_, rfl, .inr (.inr (.inl ⟨rfl, _, rfl⟩)), by go_grown⟩
  · have e0 : (kind % 5 == 0) = false := by simp [eK]
    have e1 : (kind % 5 == 1) = false := by simp [eK]
    have e2 : (kind % 5 == 2) = false := by simp [eK]
    have e3 : (kind % 5 == 3) = false := by simp [eK]
    clear eK
    go_enter Try.func18, Try.ntmps18
    go_wp2_with fail
    go_ret
    exact ⟨_, rfl, .inr (.inr (.inr ⟨by decide, by decide, w.heap.size + 1 + 1 + 1 + 1, w.heap.size + 1 + 1 + 1, w.heap.size + 1 + 1, 1, fun _ => .pointer (some ⟨w.heap.size + 1, 0, none⟩), by omega, by omega, by omega, by omega, rfl, by simp [go_sem], fun j hj => by (have e : j = 0 := by omega); subst e; simp [go_sem], by simp [go_sem], by simp [go_sem]⟩)), by go_grown⟩
end Go.Proofs.Ytdmmpgeaendjpaa
