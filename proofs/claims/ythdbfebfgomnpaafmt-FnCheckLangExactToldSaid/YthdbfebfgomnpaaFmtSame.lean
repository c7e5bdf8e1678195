/- zzSameLangs at two rows of one list. Conditions: both rows. -/
import Derived.Test.YthdbfebfgomnpaaFmtModel
import Derived.Laws.OwnMore
import Derived.Deep.RegionHeld3
namespace Go.Proofs.YthdbfebfgomnpaaFmt
open Go.RowKit
set_option linter.unusedVariables false
set_option linter.unusedSimpArgs false

set_option maxHeartbeats 2000000 in
theorem sl_none (v1 v2 : Value) (w : World) (h1 : v1 = .slice none 0 0 ∨ ∃ g c, v1 = .slice (some ⟨g, 0, none⟩) 0 c) (h2 : v2 = .slice none 0 0 ∨ ∃ g c, v2 = .slice (some ⟨g, 0, none⟩) 0 c) :
    Calls Tryf.prog 10 #[v1, v2] w fun e w' => e = .returned (.bool true) ∧ w' = w := by
  rcases h1 with rfl | ⟨g1, k1, rfl⟩ <;> rcases h2 with rfl | ⟨g2, k2, rfl⟩
  all_goals
    go_enter Tryf.func10, Tryf.ntmps10
    go_wp2_with fail
    go_loopw [5] (fun i wr => i = .int .i64 0 ∧ wr = w) (fun _ _ => 0)
    case atStart => exact ⟨rfl, rfl⟩
    case round =>
      obtain ⟨rfl, rfl⟩ := hrel
      go_wp2_with fail
      go_ret
      exact ⟨rfl, rfl⟩
set_option maxHeartbeats 2000000 in
theorem sl_some (xs : List Int) (hl : xs.length ≤ 5) (g1 k1 g2 k2 : Nat) (w : World) (h1 : ∀ k (h : k < xs.length), w.cell? ⟨g1, k, none⟩ = some (.int .i64 xs[k])) (h2 : ∀ k (h : k < xs.length), w.cell? ⟨g2, k, none⟩ = some (.int .i64 xs[k])) :
    Calls Tryf.prog 10 #[.slice (some ⟨g1, 0, none⟩) xs.length k1, .slice (some ⟨g2, 0, none⟩) xs.length k2] w fun e w' => e = .returned (.bool true) ∧ Below w.heap.size w w' := by
  obtain ⟨n, hn⟩ : ∃ n, xs.length = n := ⟨_, rfl⟩
  have H1 := Lib.hid h1
  have H2 := Lib.hid h2
  have HN := Lib.hid hn
  clear h1 h2
  rw [hn] at hl ⊢
  clear hn
  go_enter Tryf.func10, Tryf.ntmps10
  go_wp2_with fail
  go_loopw [5] (fun i wr => ∃ k : Nat, k ≤ n ∧ i = .int .i64 k ∧ Below w.heap.size w wr) (fun i _ => n - (vI i).toNat)
  case atStart => exact ⟨0, Nat.zero_le _, rfl, Below.refl _ _⟩
  case round =>
    obtain ⟨k, hk, rfl, hbel⟩ := hrel
    by_cases hlt : k < n
    · have c1 := H1.out k (by rw [HN.out]; exact hlt)
      have c2 := H2.out k (by rw [HN.out]; exact hlt)
      obtain ⟨x, hx⟩ : ∃ x, xs[k]'(by rw [HN.out]; exact hlt) = x := ⟨_, rfl⟩
      rw [hx] at c1 c2
      clear hx
      have c1 : wr.cell? ⟨g1, k, none⟩ = some (.int .i64 x) := by rw [hbel.cell (p := ⟨g1, k, none⟩) (World.block_lt_of_cell? _ _ c1)]; exact c1
      have c2 : wr.cell? ⟨g2, k, none⟩ = some (.int .i64 x) := by rw [hbel.cell (p := ⟨g2, k, none⟩) (World.block_lt_of_cell? _ _ c2)]; exact c2
      go_wp2_with fail
      go_region
      all_goals
        go_wp2_with fail
        go_roundw
        case rel => exact ⟨k + 1, by omega, by go_num, hbel.drew⟩
        case measure => simp [vI]; omega
    · obtain rfl : k = n := by omega
      go_wp2_with fail
      go_ret
      exact ⟨rfl, hbel⟩
theorem sl_any (xs : List Int) (hl : xs.length ≤ 5) (B1 B2 : Nat) (v1 v2 : Value) (w : World) (h1 : w.ownsRow B1 29 1 v1 xs.length (xs.map encZ)) (h2 : w.ownsRow B2 3 1 v2 xs.length (xs.map encI)) :
    Calls Tryf.prog 10 #[v1, v2] w fun e w' => e = .returned (.bool true) ∧ Below w.heap.size w w' := by
  by_cases hz : xs.length = 0
  · rw [hz] at h1 h2
    refine (sl_none v1 v2 w ?_ ?_).mono (fun e w' h => ⟨h.1, by rw [h.2]; exact Below.refl _ _⟩)
    · rcases h1.2 with ⟨h, _⟩ | ⟨g, c, cur, h, _⟩
      · exact .inl h
      · exact .inr ⟨g, c, h⟩
    · rcases h2.2 with ⟨h, _⟩ | ⟨g, c, cur, h, _⟩
      · exact .inl h
      · exact .inr ⟨g, c, h⟩
  · rcases h1.2 with ⟨_, h⟩ | ⟨g1, c1, cur1, rfl, _⟩
    · exact absurd h hz
    · rcases h2.2 with ⟨_, h⟩ | ⟨g2, c2, cur2, rfl, _⟩
      · exact absurd h hz
      · refine sl_some xs hl g1 c1 g2 c2 w (fun k hk => ?_) (fun k hk => ?_)
        · rw [h1.cellAt k (by omega)]
          simp [encZ, hk]
        · rw [h2.cellAt k (by omega)]
          simp [encI, hk]
end Go.Proofs.YthdbfebfgomnpaaFmt
