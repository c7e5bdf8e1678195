/- Contracts: Stmt.End with a valid terminator; the model's step by one. Conditions: raw fields that fit 32 bits. -/
import Derived.Test.YtdphohobnmfbnaaEnds
import Derived.OpenShut
import Derived.Outline
namespace Go.Proofs.Ytdphohobnmfbnaa
open Go.RowKit
set_option linter.unusedVariables false

theorem ret_two {a b c d : Int} {k l : IntKind} (h1 : a = c) (h2 : b = d) : Ending.returned (.tuple #[.int k a, .int l b]) = .returned (.tuple #[.int k c, .int l d]) := by rw [h1, h2]
set_option maxHeartbeats 1000000 in
theorem stmtEnd_one (b : Nat) (o lc : Int) (w : World) (ho : 0 ≤ o ∧ o ≤ 4294967295) (hl : 0 ≤ lc ∧ lc ≤ 4294967295) (hv : validB o lc = true)
    (h4 : w.cell? ⟨b, 4, none⟩ = some (.int .u32 o)) (h5 : w.cell? ⟨b, 5, none⟩ = some (.int .u32 lc)) (h8 : w.cell? ⟨b, 8, none⟩ = some (.bool false)) (h9 : w.cell? ⟨b, 9, none⟩ = some (.bool false)) (hb : b < w.heap.size) :
    Calls Try.prog 43 #[.pointer (some ⟨b, 0, none⟩)] w fun e w' => e = .returned (.agg #[.int .u32 (addO o lc 1), .int .u32 (addLc o lc 1)]) ∧ Below w.heap.size w w' := by
  go_enter Try.func43, Try.ntmps43
  go_wp2_with fail
  refine (isValid_any _ _ _ ho hl).mono ?_
  rintro e w1 ⟨rfl, hb1⟩
  obtain ⟨k0, k1, f0, f1, hB⟩ := slot_after hb1
  have hc := (bcell hb1).1
  have g4 : w1.cell? ⟨b, 4, none⟩ = some (.int .u32 o) := by rw [hc _ _ (by simp; omega)]; exact cell_alloc h4
  have g5 : w1.cell? ⟨b, 5, none⟩ = some (.int .u32 lc) := by rw [hc _ _ (by simp; omega)]; exact cell_alloc h5
  clear hc hB k0 k1 f0 f1
  go_wp2_with fail
  refine (addCol_any _ _ _ _ ho hl (by omega)).mono ?_
  rintro e w2 ⟨rfl, hb2⟩
  have hb2 := below_next hb1 hb2
  obtain ⟨k0, k1, f0, f1, hB⟩ := slot_after hb2
  have hc := (bcell hb2).1
  have hz := hb2.size
  have g8 : w2.cell? ⟨b, 8, none⟩ = some (.bool false) := by rw [hc _ _ (by simp; omega)]; exact cell_alloc h8
  have g9 : w2.cell? ⟨b, 9, none⟩ = some (.bool false) := by rw [hc _ _ (by simp; omega)]; exact cell_alloc h9
  simp at hz
  have n1 : ¬ b = w2.heap.size := by omega
  have n2 : w.heap.size < w2.heap.size := by omega
  have n3 : b < w2.heap.size := by omega
  clear hc hb1 hb2 g4 g5
  go_wp2_with fail
  exact bodyPost_ret (v := .agg #[.int .u32 (addO o lc 1), .int .u32 (addLc o lc 1)]) (by simp [results, Try.results43, go_sem, k0, k1, n2]) rfl ⟨rfl, by go_grown⟩
set_option maxHeartbeats 1000000 in
theorem stmtEnd_two (b : Nat) (c d : Bool) (hcd : (c || d) = true) (o lc : Int) (w : World) (ho : 0 ≤ o ∧ o ≤ 4294967295) (hl : 0 ≤ lc ∧ lc ≤ 4294967295) (hv : validB o lc = true)
    (h4 : w.cell? ⟨b, 4, none⟩ = some (.int .u32 o)) (h5 : w.cell? ⟨b, 5, none⟩ = some (.int .u32 lc)) (h8 : w.cell? ⟨b, 8, none⟩ = some (.bool c)) (h9 : w.cell? ⟨b, 9, none⟩ = some (.bool d)) (hb : b < w.heap.size) :
    Calls Try.prog 43 #[.pointer (some ⟨b, 0, none⟩)] w fun e w' => e = .returned (.agg #[.int .u32 (addO (addO o lc 1) (addLc o lc 1) 1), .int .u32 (addLc (addO o lc 1) (addLc o lc 1) 1)]) ∧ Below w.heap.size w w' := by
  go_enter Try.func43, Try.ntmps43
  go_wp2_with fail
  refine (isValid_any _ _ _ ho hl).mono ?_
  rintro e w1 ⟨rfl, hb1⟩
  obtain ⟨k0, k1, f0, f1, hB⟩ := slot_after hb1
  have hc := (bcell hb1).1
  have g4 : w1.cell? ⟨b, 4, none⟩ = some (.int .u32 o) := by rw [hc _ _ (by simp; omega)]; exact cell_alloc h4
  have g5 : w1.cell? ⟨b, 5, none⟩ = some (.int .u32 lc) := by rw [hc _ _ (by simp; omega)]; exact cell_alloc h5
  clear hc hB k0 k1 f0 f1
  go_wp2_with fail
  refine (addCol_any _ _ _ _ ho hl (by omega)).mono ?_
  rintro e w2 ⟨rfl, hb2⟩
  have hb2 := below_next hb1 hb2
  obtain ⟨k0, k1, f0, f1, hB⟩ := slot_after hb2
  have hc := (bcell hb2).1
  have hz := hb2.size
  have g8 : w2.cell? ⟨b, 8, none⟩ = some (.bool c) := by rw [hc _ _ (by simp; omega)]; exact cell_alloc h8
  have g9 : w2.cell? ⟨b, 9, none⟩ = some (.bool d) := by rw [hc _ _ (by simp; omega)]; exact cell_alloc h9
  simp at hz
  have n1 : ¬ b = w2.heap.size := by omega
  have n2 : w.heap.size < w2.heap.size := by omega
  have n3 : b < w2.heap.size := by omega
  clear hc hb1 hb2 g4 g5
  have hcs : (c = true) ∨ (c = false ∧ d = true) := by cases c <;> simp_all
  clear hcd
  rcases hcs with rfl | ⟨rfl, rfl⟩
  all_goals
    go_wp2_with fail
    refine (addCol_any _ _ _ _ (addO_in _ _ _ ho) (addLc_in _ _ _ hl) (by omega)).mono ?_
    rintro e w3 ⟨rfl, hb3⟩
    have hz3 := hb3.size
    simp at hz3
    have hc := (bcell hb3).1
    have hf := (bcell hb3).2
    have m0 : w3.cell? ⟨w.heap.size, 0, none⟩ = some (.int .u32 0) := by rw [hc _ _ (by simp; omega)]; exact cell_alloc k0
    have m1 : w3.cell? ⟨w.heap.size, 1, none⟩ = some (.int .u32 0) := by rw [hc _ _ (by simp; omega)]; exact cell_alloc k1
    have m2 : w3.cell? ⟨w2.heap.size, 0, none⟩ = some (.int .u32 (addO o lc 1)) := by rw [hc _ _ (by simp)]; simp [go_sem]
    have m3 : w3.cell? ⟨w2.heap.size, 1, none⟩ = some (.int .u32 (addLc o lc 1)) := by rw [hc _ _ (by simp)]; simp [go_sem]
    have q0 : w3.frozen? ⟨w.heap.size, 0, none⟩ = false := by rw [hf _ _ (by simp; omega)]; simp [go_sem, n2, f0]
    have q1 : w3.frozen? ⟨w.heap.size, 1, none⟩ = false := by rw [hf _ _ (by simp; omega)]; simp [go_sem, n2, f1]
    have q2 : w3.frozen? ⟨w2.heap.size, 0, none⟩ = false := by rw [hf _ _ (by simp)]; simp [go_sem]
    have q3 : w3.frozen? ⟨w2.heap.size, 1, none⟩ = false := by rw [hf _ _ (by simp)]; simp [go_sem]
    have hB3 : Below w.heap.size w w3 := below_next (by go_grown) hb3
    have n5 : ¬ w2.heap.size = w.heap.size := by omega
    have n6 : ¬ w.heap.size = w2.heap.size := by omega
    have hz2 : w.heap.size ≤ w2.heap.size := by omega
    clear hc hf hb3
    go_wp2_with fail
    exact bodyPost_ret (v := .agg #[.int .u32 (addO (addO o lc 1) (addLc o lc 1) 1), .int .u32 (addLc (addO o lc 1) (addLc o lc 1) 1)]) (by simp [results, Try.results43, go_sem, m0, m1]) rfl ⟨rfl, by go_grown⟩
def endO (o lc : Int) (t : Bool) : Int := if t = true then addO (addO o lc 1) (addLc o lc 1) 1 else addO o lc 1
def endLc (o lc : Int) (t : Bool) : Int := if t = true then addLc (addO o lc 1) (addLc o lc 1) 1 else addLc o lc 1
theorem stmtEnd_any (b : Nat) (c d : Bool) (o lc : Int) (w : World) (ho : 0 ≤ o ∧ o ≤ 4294967295) (hl : 0 ≤ lc ∧ lc ≤ 4294967295) (hv : validB o lc = true)
    (h4 : w.cell? ⟨b, 4, none⟩ = some (.int .u32 o)) (h5 : w.cell? ⟨b, 5, none⟩ = some (.int .u32 lc)) (h8 : w.cell? ⟨b, 8, none⟩ = some (.bool c)) (h9 : w.cell? ⟨b, 9, none⟩ = some (.bool d)) (hb : b < w.heap.size) :
    Calls Try.prog 43 #[.pointer (some ⟨b, 0, none⟩)] w fun e w' => e = .returned (.agg #[.int .u32 (endO o lc (c || d)), .int .u32 (endLc o lc (c || d))]) ∧ Below w.heap.size w w' := by
  cases h : (c || d)
  · have hc : c = false ∧ d = false := by simpa using h
    obtain ⟨rfl, rfl⟩ := hc
    exact stmtEnd_one b o lc w ho hl hv h4 h5 h8 h9 hb
  · exact stmtEnd_two b c d h o lc w ho hl hv h4 h5 h8 h9 hb
theorem endO_in (o lc : Int) (t : Bool) (ho : 0 ≤ o ∧ o ≤ 4294967295) : 0 ≤ endO o lc t ∧ endO o lc t ≤ 4294967295 := by
  unfold endO; split
  · exact addO_in _ _ _ (addO_in _ _ _ ho)
  · exact addO_in _ _ _ ho
theorem endLc_in (o lc : Int) (t : Bool) (hl : 0 ≤ lc ∧ lc ≤ 4294967295) : 0 ≤ endLc o lc t ∧ endLc o lc t ≤ 4294967295 := by
  unfold endLc; split
  · exact addLc_in _ _ _ (addLc_in _ _ _ hl)
  · exact addLc_in _ _ _ hl
set_option maxHeartbeats 2000000 in
theorem add1_any (o lc : Int) (w : World) (ho : 0 ≤ o ∧ o ≤ 4294967295) (hl : 0 ≤ lc ∧ lc ≤ 4294967295) :
    Calls Try.prog 42 #[.int .u32 o, .int .u32 lc] w fun e w' => e = .returned (.tuple #[.int .u32 (addO o lc 1), .int .u32 (addLc o lc 1)]) ∧ w = w' := by
  obtain ⟨ho1, ho2⟩ := ho
  obtain ⟨hl1, hl2⟩ := hl
  by_cases h1 : 4294967284 < o
  · go_enter Try.func42, Try.ntmps42
    go_wp2
    go_ret2
    exact ⟨by rw [← addO_no (Or.inl h1), ← addLc_no (Or.inl h1)]; rfl, rfl⟩
  by_cases h2 : lc = 0
  · subst h2
    go_enter Try.func42, Try.ntmps42
    go_wp2
    go_ret2
    exact ⟨by rw [← addO_no (Or.inr rfl), ← addLc_no (Or.inr rfl)]; rfl, rfl⟩
  have h3 : (lc != 0) = true := by simp [h2]
  have hm1 : 0 ≤ lc % 16384 := by omega
  have hm2 : lc % 16384 < 16384 := by omega
  have hd1 : 0 ≤ lc / 16384 := by omega
  have hd2 : lc / 16384 ≤ 262143 := by omega
  have hb := and_col lc hl1 hl2
  have hor := or_col (lc / 16384)
  by_cases h4 : lc % 16384 = 0
  · have e4 : (lc % 16384 != 0) = false := by simp [h4]
    have H4 := Lib.hid h4
    clear h4 h2
    by_cases h5 : o < 4294967284
    all_goals
      go_enter Try.func42, Try.ntmps42
      go_wp2
      go_ret2
      have h4 := H4.out
      refine ⟨ret_two (addO_is (by omega) h3 (by omega)) (addLc_is (by omega) h3 (by first | omega | (rw [hor _ hd1 hd2 (by omega) (by omega)]; omega))), rfl⟩
  · have e4 : (lc % 16384 != 0) = true := by simp [h4]
    by_cases h6 : lc % 16384 = 16383
    · have e6 : (lc % 16384 == 16383) = true := by simp [h6]
      have H6 := Lib.hid h6
      clear h4 h2 h6
      by_cases h5 : o < 4294967284
      all_goals
        go_enter Try.func42, Try.ntmps42
        go_wp2
        go_ret2
        have h4 := H6.out
        refine ⟨ret_two (addO_is (by omega) h3 (by omega)) (addLc_is (by omega) h3 (by first | omega | (rw [hor _ hd1 hd2 (by omega) (by omega)]; omega))), rfl⟩
    · have e6 : (lc % 16384 == 16383) = false := by simp [h6]
      have H6 := Lib.hid (And.intro h4 h6)
      have h7 : lc % 16384 ≤ 16382 := by omega
      clear h4 h2 h6
      by_cases h5 : o < 4294967284
      all_goals
        go_enter Try.func42, Try.ntmps42
        go_wp2
        go_ret2
        have h4 := H6.out
        refine ⟨ret_two (addO_is (by omega) h3 (by omega)) (addLc_is (by omega) h3 (by first | omega | (rw [hor _ hd1 hd2 (by omega) (by omega)]; omega))), rfl⟩
set_option maxHeartbeats 400000 in
theorem mk11_any (o lc : Int) (w : World) :
    Calls Try.prog 40 #[.int .u32 o, .int .u32 lc] w fun e w' => e = .returned (.agg #[.int .u32 o, .int .u32 lc]) ∧ Below w.heap.size w w' := by
  go_enter Try.func40, Try.ntmps40
  go_wp2
  go_returns
  exact ⟨rfl, by go_grown⟩
end Go.Proofs.Ytdphohobnmfbnaa
