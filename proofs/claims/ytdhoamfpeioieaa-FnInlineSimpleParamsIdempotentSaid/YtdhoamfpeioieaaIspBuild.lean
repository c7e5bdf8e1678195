/- What zzSimpleParamsWord_b2 builds. Conditions: at most 65536 parts. -/
import Derived.Test.YtdhoamfpeioieaaIsp
import Derived.Test.YtdhoamfpeioieaaPe
import Derived.Test.YtdhoamfpeioieaaUqBuild
namespace Go.Proofs.Ytdhoamfpeioieaa
open Go.RowKit
set_option linter.unusedVariables false
set_option linter.unusedSimpArgs false

theorem still_of {w : World} {W g n : Nat} {v0 : Value} (hn : n ≤ 65536) (c0 : w.cell? ⟨W, 0, none⟩ = some (.slice (some ⟨g, 0, none⟩) n n)) (r1 : RowV w g n (uqV g v0))
    (hp : (∃ b : Nat, v0 = .iface 32 (.pointer (some ⟨b, 0, none⟩))) ∨ (∃ b : Nat, v0 = .iface 41 (.pointer (some ⟨b, 0, none⟩))) ∨ ∃ b : Nat, v0 = .iface 31 (.pointer (some ⟨b, 0, none⟩)) ∧ (w.cell? ⟨b, 13, none⟩ = some (.pointer none) ∨ ∃ l s t, PeOk w b l s t)) :
    StillW w W ∨ LoudW w W w.heap.size := by
  by_cases h1 : n = 1
  · subst h1
    have k0 := (r1 0 (by omega)).1
    have e0 : uqV g v0 0 = v0 := by simp [uqV]
    rw [e0] at k0
    rcases hp with hp | hp | ⟨b, hb, hp⟩
    · exact .inl ⟨g, 1, c0, hn, fun _ => ⟨v0, k0, .inl hp⟩⟩
    · exact .inl ⟨g, 1, c0, hn, fun _ => ⟨v0, k0, .inr (.inl hp)⟩⟩
    · rcases hp with hp | ⟨l, s, t, hp⟩
      · exact .inl ⟨g, 1, c0, hn, fun _ => ⟨v0, k0, .inr (.inr ⟨b, hb, .inl hp⟩)⟩⟩
      · cases hvt : (vnB s && t)
        · exact .inl ⟨g, 1, c0, hn, fun _ => ⟨v0, k0, .inr (.inr ⟨b, hb, .inr ⟨l, s, t, hp, hvt⟩⟩)⟩⟩
        · have hv : vnB s = true := by cases hv : vnB s <;> simp_all
          have ht : t = true := by cases t <;> simp_all
          subst ht
          subst hb
          exact .inr ⟨g, b, l, s, by have := World.block_lt_of_cell? _ _ hp.1; simpa using this, c0, k0, hp, hv⟩
  · exact .inl ⟨g, n, c0, hn, fun e => absurd e h1⟩
def SpMade (w : World) (e : Ending) (w' : World) : Prop := ∃ W b l : Nat, e = .returned (.tuple #[.pointer (some ⟨W, 0, none⟩), .pointer (some ⟨b, 0, none⟩), .pointer (some ⟨l, 0, none⟩)]) ∧ (StillW w' W ∨ LoudW w' W w'.heap.size) ∧ Below w.heap.size w w'

set_option maxRecDepth 100000 in
set_option maxHeartbeats 4000000 in
theorem spw_0 (s : ByteArray) (n x : Nat) (w : World) (hn : n ≤ 65536) (hx : x ≤ 16) (hs : s.size ≤ 1048576) :
    Calls Try.prog 11 #[.string s, .int .i64 n, .int .i64 0, .int .i64 x] w (SpMade w) := by
  have hmk := mk_parts n hn
  go_enter Try.func11, Try.ntmps11
  go_wp2_with fail
  refine (pex_any s x _ hx).mono ?_
  rintro e w1 ⟨b, l, rfl, hpe, hb1⟩
  have HP := Lib.hid hpe
  have H1 := Lib.hid hb1
  clear hpe hb1
  go_wp2_with fail
  refine wp_gen (fun U => ∃ w0 : World, (Below w1.heap.size w1 w0 ∧ w0.heap.size = w1.heap.size) ∧ RB (w1.heap.size) n (.iface 31 (.pointer (some ⟨b, 0, none⟩))) w0 0 U) ?_ ?_
  · refine ⟨_, ⟨?_, ?_⟩, rb_start ?_ hn ?_⟩
    · go_grown
    · simp
    · simp
    · first | exact made_cells _ _ rfl | exact toList_madeCells_one _ _ | simp [toList_madeCells_one]
  rintro U ⟨w00, hw, hG⟩
  have HG := Lib.hid hG
  have HW := Lib.hid hw
  clear hG hw hmk
  go_loopw [15] (fun i wr => ∃ k : Nat, k ≤ n ∧ i = .int .i64 k ∧ Hid (RB (w1.heap.size) n (.iface 31 (.pointer (some ⟨b, 0, none⟩))) w00 k wr)) (fun i _ => n - (intOf i).toNat)
  case atStart => exact ⟨0, Nat.zero_le _, rfl, HG⟩
  case round =>
    obtain ⟨k, hk, rfl, HRR⟩ := hrel
    clear HG
    by_cases hlt : k < n
    · have c2 := rb_cell HRR.out hlt
      have f2 := HRR.out.1.1.frozenAt k
      have z2 := World.block_lt_of_cell? _ _ c2
      simp only at z2
      by_cases hk0 : k = 0
      · subst hk0
        go_wp2_with fail
        go_roundw
        case rel => exact ⟨1, by omega, by go_num, Lib.hid (rb_first HRR.out hlt)⟩
        case measure => simp [intOf]; omega
      · have e1 : ((k : Int) == 0) = false := by simp; omega
        go_wp2_with fail
        go_roundw
        case rel => exact ⟨k + 1, by omega, by go_num, Lib.hid (rb_next HRR.out hlt (by omega) _)⟩
        case measure => simp [intOf]; omega
    · obtain rfl : k = n := by omega
      have HR9 := Lib.hid (fill_row HRR.out.1 (fun i _ => uqV_good ⟨_, .inr (.inl rfl)⟩ i))
      have HB9 := Lib.hid HRR.out.1.2.1
      clear HRR
      go_wp2_with fail
      refine bodyPost_ret (results_tmp3 rfl _ _ _) rfl ?_
      have hbW : Below wr.heap.size wr (wr.alloc (.cells #[.slice (some ⟨w1.heap.size, 0, none⟩) k k] 51)) := (Below.refl _ _).alloc (Nat.le_refl _) _
      have l0 : Below w00.heap.size w00 wr := by rw [HW.out.2]; exact HB9.out
      have l1 : Below w1.heap.size w1 (wr.alloc (.cells #[.slice (some ⟨w1.heap.size, 0, none⟩) k k] 51)) := below_next (below_next HW.out.1 l0) hbW
      have hpe : (wr.alloc (.cells #[.slice (some ⟨w1.heap.size, 0, none⟩) k k] 51)).cell? ⟨b, 13, none⟩ = some (.pointer none) ∨ ∃ l s t, PeOk (wr.alloc (.cells #[.slice (some ⟨w1.heap.size, 0, none⟩) k k] 51)) b l s t := by
        rcases HP.out with h | ⟨h1, h2, t, h3⟩
        · exact .inl (cell_below l1 h)
        · exact .inr ⟨l, s, t, PeOk.below ⟨h1, h2, hs, h3⟩ l1⟩
      exact ⟨wr.heap.size, b, l, rfl, still_of hn (g := w1.heap.size) (v0 := .iface 31 (.pointer (some ⟨b, 0, none⟩))) (W := wr.heap.size) (by simp [go_sem]) (HR9.out.below hbW) (.inr (.inr ⟨b, rfl, hpe⟩)), below_next H1.out l1⟩
set_option maxRecDepth 100000 in
set_option maxHeartbeats 4000000 in
theorem spw_1 (s : ByteArray) (n x : Nat) (w : World) (hn : n ≤ 65536) (hx : x ≤ 16) (hs : s.size ≤ 1048576) :
    Calls Try.prog 11 #[.string s, .int .i64 n, .int .i64 1, .int .i64 x] w (SpMade w) := by
  have hmk := mk_parts n hn
  go_enter Try.func11, Try.ntmps11
  go_wp2_with fail
  refine (pex_any s x _ hx).mono ?_
  rintro e w1 ⟨b, l, rfl, hpe, hb1⟩
  have HP := Lib.hid hpe
  have H1 := Lib.hid hb1
  clear hpe hb1
  go_wp2_with fail
  refine wp_gen (fun U => ∃ w0 : World, (Below w1.heap.size w1 w0 ∧ w0.heap.size = w1.heap.size + 1) ∧ RB (w1.heap.size + 1) n (.iface 32 (.pointer (some ⟨w1.heap.size, 0, none⟩))) w0 0 U) ?_ ?_
  · refine ⟨_, ⟨?_, ?_⟩, rb_start ?_ hn ?_⟩
    · go_grown
    · simp
    · simp
    · first | exact made_cells _ _ rfl | exact toList_madeCells_one _ _ | simp [toList_madeCells_one]
  rintro U ⟨w00, hw, hG⟩
  have HG := Lib.hid hG
  have HW := Lib.hid hw
  clear hG hw hmk
  go_loopw [15] (fun i wr => ∃ k : Nat, k ≤ n ∧ i = .int .i64 k ∧ Hid (RB (w1.heap.size + 1) n (.iface 32 (.pointer (some ⟨w1.heap.size, 0, none⟩))) w00 k wr)) (fun i _ => n - (intOf i).toNat)
  case atStart => exact ⟨0, Nat.zero_le _, rfl, HG⟩
  case round =>
    obtain ⟨k, hk, rfl, HRR⟩ := hrel
    clear HG
    by_cases hlt : k < n
    · have c2 := rb_cell HRR.out hlt
      have f2 := HRR.out.1.1.frozenAt k
      have z2 := World.block_lt_of_cell? _ _ c2
      simp only at z2
      by_cases hk0 : k = 0
      · subst hk0
        go_wp2_with fail
        go_roundw
        case rel => exact ⟨1, by omega, by go_num, Lib.hid (rb_first HRR.out hlt)⟩
        case measure => simp [intOf]; omega
      · have e1 : ((k : Int) == 0) = false := by simp; omega
        go_wp2_with fail
        go_roundw
        case rel => exact ⟨k + 1, by omega, by go_num, Lib.hid (rb_next HRR.out hlt (by omega) _)⟩
        case measure => simp [intOf]; omega
    · obtain rfl : k = n := by omega
      have HR9 := Lib.hid (fill_row HRR.out.1 (fun i _ => uqV_good ⟨_, .inl rfl⟩ i))
      have HB9 := Lib.hid HRR.out.1.2.1
      clear HRR
      go_wp2_with fail
      refine bodyPost_ret (results_tmp3 rfl _ _ _) rfl ?_
      have hbW : Below wr.heap.size wr (wr.alloc (.cells #[.slice (some ⟨w1.heap.size + 1, 0, none⟩) k k] 51)) := (Below.refl _ _).alloc (Nat.le_refl _) _
      have l0 : Below w00.heap.size w00 wr := by rw [HW.out.2]; exact HB9.out
      have l1 : Below w1.heap.size w1 (wr.alloc (.cells #[.slice (some ⟨w1.heap.size + 1, 0, none⟩) k k] 51)) := below_next (below_next HW.out.1 l0) hbW
      have hpe : (wr.alloc (.cells #[.slice (some ⟨w1.heap.size + 1, 0, none⟩) k k] 51)).cell? ⟨b, 13, none⟩ = some (.pointer none) ∨ ∃ l s t, PeOk (wr.alloc (.cells #[.slice (some ⟨w1.heap.size + 1, 0, none⟩) k k] 51)) b l s t := by
        rcases HP.out with h | ⟨h1, h2, t, h3⟩
        · exact .inl (cell_below l1 h)
        · exact .inr ⟨l, s, t, PeOk.below ⟨h1, h2, hs, h3⟩ l1⟩
      exact ⟨wr.heap.size, b, l, rfl, still_of hn (g := w1.heap.size + 1) (v0 := .iface 32 (.pointer (some ⟨w1.heap.size, 0, none⟩))) (W := wr.heap.size) (by simp [go_sem]) (HR9.out.below hbW) (.inl ⟨_, rfl⟩), below_next H1.out l1⟩
set_option maxRecDepth 100000 in
set_option maxHeartbeats 4000000 in
theorem spw_2 (s : ByteArray) (n x : Nat) (w : World) (hn : n ≤ 65536) (hx : x ≤ 16) (hs : s.size ≤ 1048576) :
    Calls Try.prog 11 #[.string s, .int .i64 n, .int .i64 2, .int .i64 x] w (SpMade w) := by
  have hmk := mk_parts n hn
  go_enter Try.func11, Try.ntmps11
  go_wp2_with fail
  refine (pex_any s x _ hx).mono ?_
  rintro e w1 ⟨b, l, rfl, hpe, hb1⟩
  have HP := Lib.hid hpe
  have H1 := Lib.hid hb1
  clear hpe hb1
  go_wp2_with fail
  refine wp_gen (fun U => ∃ w0 : World, (Below w1.heap.size w1 w0 ∧ w0.heap.size = w1.heap.size + 1 + 1) ∧ RB (w1.heap.size + 1 + 1) n (.iface 41 (.pointer (some ⟨w1.heap.size + 1, 0, none⟩))) w0 0 U) ?_ ?_
  · refine ⟨_, ⟨?_, ?_⟩, rb_start ?_ hn ?_⟩
    · go_grown
    · simp
    · simp
    · first | exact made_cells _ _ rfl | exact toList_madeCells_one _ _ | simp [toList_madeCells_one]
  rintro U ⟨w00, hw, hG⟩
  have HG := Lib.hid hG
  have HW := Lib.hid hw
  clear hG hw hmk
  go_loopw [15] (fun i wr => ∃ k : Nat, k ≤ n ∧ i = .int .i64 k ∧ Hid (RB (w1.heap.size + 1 + 1) n (.iface 41 (.pointer (some ⟨w1.heap.size + 1, 0, none⟩))) w00 k wr)) (fun i _ => n - (intOf i).toNat)
  case atStart => exact ⟨0, Nat.zero_le _, rfl, HG⟩
  case round =>
    obtain ⟨k, hk, rfl, HRR⟩ := hrel
    clear HG
    by_cases hlt : k < n
    · have c2 := rb_cell HRR.out hlt
      have f2 := HRR.out.1.1.frozenAt k
      have z2 := World.block_lt_of_cell? _ _ c2
      simp only at z2
      by_cases hk0 : k = 0
      · subst hk0
        go_wp2_with fail
        go_roundw
        case rel => exact ⟨1, by omega, by go_num, Lib.hid (rb_first HRR.out hlt)⟩
        case measure => simp [intOf]; omega
      · have e1 : ((k : Int) == 0) = false := by simp; omega
        go_wp2_with fail
        go_roundw
        case rel => exact ⟨k + 1, by omega, by go_num, Lib.hid (rb_next HRR.out hlt (by omega) _)⟩
        case measure => simp [intOf]; omega
    · obtain rfl : k = n := by omega
      have HR9 := Lib.hid (fill_row HRR.out.1 (fun i _ => uqV_good ⟨_, .inr (.inr (.inr rfl))⟩ i))
      have HB9 := Lib.hid HRR.out.1.2.1
      clear HRR
      go_wp2_with fail
      refine bodyPost_ret (results_tmp3 rfl _ _ _) rfl ?_
      have hbW : Below wr.heap.size wr (wr.alloc (.cells #[.slice (some ⟨w1.heap.size + 1 + 1, 0, none⟩) k k] 51)) := (Below.refl _ _).alloc (Nat.le_refl _) _
      have l0 : Below w00.heap.size w00 wr := by rw [HW.out.2]; exact HB9.out
      have l1 : Below w1.heap.size w1 (wr.alloc (.cells #[.slice (some ⟨w1.heap.size + 1 + 1, 0, none⟩) k k] 51)) := below_next (below_next HW.out.1 l0) hbW
      have hpe : (wr.alloc (.cells #[.slice (some ⟨w1.heap.size + 1 + 1, 0, none⟩) k k] 51)).cell? ⟨b, 13, none⟩ = some (.pointer none) ∨ ∃ l s t, PeOk (wr.alloc (.cells #[.slice (some ⟨w1.heap.size + 1 + 1, 0, none⟩) k k] 51)) b l s t := by
        rcases HP.out with h | ⟨h1, h2, t, h3⟩
        · exact .inl (cell_below l1 h)
        · exact .inr ⟨l, s, t, PeOk.below ⟨h1, h2, hs, h3⟩ l1⟩
      exact ⟨wr.heap.size, b, l, rfl, still_of hn (g := w1.heap.size + 1 + 1) (v0 := .iface 41 (.pointer (some ⟨w1.heap.size + 1, 0, none⟩))) (W := wr.heap.size) (by simp [go_sem]) (HR9.out.below hbW) (.inr (.inl ⟨_, rfl⟩)), below_next H1.out l1⟩
end Go.Proofs.Ytdhoamfpeioieaa
