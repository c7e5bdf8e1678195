/- The walk of FnIsBashCompoundCommandExactWordOnly: the Go text returns true. Conditions: none. -/
import Derived.Test.YtoankohalfnemaaChecked
import Derived.Test.YtoankohalfnemaaKit
import Derived.Handy
import Derived.Outline
namespace Go.Proofs.Ytoankohalfnemaa.fnIsBashCompoundCommandExactWordOnly
open Go.RowKit
set_option linter.unusedVariables false

def wordL : List (List UInt8) := [[123], [105, 102], [119, 104, 105, 108, 101], [117, 110, 116, 105, 108], [102, 111, 114], [99, 97, 115, 101], [91, 91], [99, 111, 112, 114, 111, 99], [108, 101, 116], [102, 117, 110, 99, 116, 105, 111, 110], [100, 101, 99, 108, 97, 114, 101], [108, 111, 99, 97, 108], [101, 120, 112, 111, 114, 116], [114, 101, 97, 100, 111, 110, 108, 121], [116, 121, 112, 101, 115, 101, 116], [110, 97, 109, 101, 114, 101, 102]]
def wordT (k : Nat) : ByteArray := ⟨(wordL.getD k []).toArray⟩
theorem word_size : ∀ k : Fin 16, 0 < (wordL.getD k.val []).length ∧ (wordL.getD k.val []).length < 16 := by decide +kernel
theorem word_apart : ∀ k j : Fin 16, (wordL.getD k.val []).length < (wordL.getD j.val []).length → (wordL.getD j.val []).take (wordL.getD k.val []).length ≠ wordL.getD k.val [] := by decide +kernel
theorem apart (k j : Nat) (hk : k < 16) (hj : j < 16) (pad : ByteArray) (hp : 0 < pad.size) : ((wordT k ++ pad).toList == wordL.getD j []) = false := by
  rw [beq_eq_false_iff_ne, ByteArray.toList_eq]
  intro h
  have e : (wordT k ++ pad).data.toList = wordL.getD k [] ++ pad.data.toList := by simp [wordT]
  rw [e] at h
  have hz : pad.data.toList.length = pad.size := rfl
  have hl := congrArg List.length h
  rw [List.length_append] at hl
  refine word_apart ⟨k, hk⟩ ⟨j, hj⟩ (by simp only; omega) ?_
  simp only
  rw [← h, List.take_left']
  rfl
theorem wordT_size (k : Nat) (hk : k < 16) : (wordT k).size < 16 := by
  have h := (word_size ⟨k, hk⟩).2
  have e : (wordT k).size = (wordL.getD k []).length := by simp [wordT, ByteArray.size]
  rw [e]; exact h

set_option maxHeartbeats 400000 in
theorem zb_any (tok k : Int) (pad : ByteArray) (w : World) (hp : pad.size ≤ 1048576) :
    Calls Try.prog 13 #[.int .u32 tok, .int .i64 k, .string pad] w fun e w' => e = .returned (.bool true) ∧ w = w' := by
  go_enter Try.func13, Try.ntmps13
  go_wp2
  go_ret
  exact ⟨rfl, rfl⟩
set_option maxHeartbeats 400000 in
theorem zb_no (tok k : Int) (pad : ByteArray) (w : World) (hp : 1048576 < pad.size) :
    Calls Try.prog 13 #[.int .u32 tok, .int .i64 k, .string pad] w fun e w' => e = .returned (.bool false) ∧ w = w' := by
  go_enter Try.func13, Try.ntmps13
  go_wp2
  go_ret
  exact ⟨rfl, rfl⟩
set_option maxHeartbeats 400000 in
theorem isc_tok (tok : Int) (val : ByteArray) (w : World) (h1 : (tok == 27) = false) (h2 : (tok == 28) = false) (h3 : (tok == 4) = false) :
    Calls Try.prog 42 #[.int .u32 tok, .string val] w fun e w' => e = .returned (.bool false) ∧ w = w' := by
  go_enter Try.func42, Try.ntmps42
  go_wp2
  go_ret
  exact ⟨rfl, rfl⟩
set_option maxHeartbeats 1000000 in
theorem isc_val (val : ByteArray) (w : World) (h : ∀ j, j < 16 → (val.toList == wordL.getD j []) = false) :
    Calls Try.prog 42 #[.int .u32 4, .string val] w fun e w' => e = .returned (.bool false) ∧ w = w' := by
  have h0 : (val.toList == [123]) = false := h 0 (by omega)
  have h1 : (val.toList == [105, 102]) = false := h 1 (by omega)
  have h2 : (val.toList == [119, 104, 105, 108, 101]) = false := h 2 (by omega)
  have h3 : (val.toList == [117, 110, 116, 105, 108]) = false := h 3 (by omega)
  have h4 : (val.toList == [102, 111, 114]) = false := h 4 (by omega)
  have h5 : (val.toList == [99, 97, 115, 101]) = false := h 5 (by omega)
  have h6 : (val.toList == [91, 91]) = false := h 6 (by omega)
  have h7 : (val.toList == [99, 111, 112, 114, 111, 99]) = false := h 7 (by omega)
  have h8 : (val.toList == [108, 101, 116]) = false := h 8 (by omega)
  have h9 : (val.toList == [102, 117, 110, 99, 116, 105, 111, 110]) = false := h 9 (by omega)
  have h10 : (val.toList == [100, 101, 99, 108, 97, 114, 101]) = false := h 10 (by omega)
  have h11 : (val.toList == [108, 111, 99, 97, 108]) = false := h 11 (by omega)
  have h12 : (val.toList == [101, 120, 112, 111, 114, 116]) = false := h 12 (by omega)
  have h13 : (val.toList == [114, 101, 97, 100, 111, 110, 108, 121]) = false := h 13 (by omega)
  have h14 : (val.toList == [116, 121, 112, 101, 115, 101, 116]) = false := h 14 (by omega)
  have h15 : (val.toList == [110, 97, 109, 101, 114, 101, 102]) = false := h 15 (by omega)
  clear h
  go_enter Try.func42, Try.ntmps42
  go_wp2
  go_ret
  exact ⟨rfl, rfl⟩
set_option maxHeartbeats 4000000 in
theorem isc_yes (k : Nat) (hk : k < 16) (w : World) :
    Calls Try.prog 42 #[.int .u32 4, .string (wordT k)] w fun e w' => e = .returned (.bool true) ∧ w = w' := by
  have h : k = 0 ∨ k = 1 ∨ k = 2 ∨ k = 3 ∨ k = 4 ∨ k = 5 ∨ k = 6 ∨ k = 7 ∨ k = 8 ∨ k = 9 ∨ k = 10 ∨ k = 11 ∨ k = 12 ∨ k = 13 ∨ k = 14 ∨ k = 15 := by omega
  rcases h with rfl | rfl | rfl | rfl | rfl | rfl | rfl | rfl | rfl | rfl | rfl | rfl | rfl | rfl | rfl | rfl
  · show Calls Try.prog 42 #[.int .u32 4, .string ⟨#[123]⟩] w _
    go_enter Try.func42, Try.ntmps42
    go_wp2
    go_ret
    exact ⟨rfl, rfl⟩
  · show Calls Try.prog 42 #[.int .u32 4, .string ⟨#[105, 102]⟩] w _
    go_enter Try.func42, Try.ntmps42
    go_wp2
    go_ret
    exact ⟨rfl, rfl⟩
  · show Calls Try.prog 42 #[.int .u32 4, .string ⟨#[119, 104, 105, 108, 101]⟩] w _
    go_enter Try.func42, Try.ntmps42
    go_wp2
    go_ret
    exact ⟨rfl, rfl⟩
  · show Calls Try.prog 42 #[.int .u32 4, .string ⟨#[117, 110, 116, 105, 108]⟩] w _
    go_enter Try.func42, Try.ntmps42
    go_wp2
    go_ret
    exact ⟨rfl, rfl⟩
  · show Calls Try.prog 42 #[.int .u32 4, .string ⟨#[102, 111, 114]⟩] w _
    go_enter Try.func42, Try.ntmps42
    go_wp2
    go_ret
    exact ⟨rfl, rfl⟩
  · show Calls Try.prog 42 #[.int .u32 4, .string ⟨#[99, 97, 115, 101]⟩] w _
    go_enter Try.func42, Try.ntmps42
    go_wp2
    go_ret
    exact ⟨rfl, rfl⟩
  · show Calls Try.prog 42 #[.int .u32 4, .string ⟨#[91, 91]⟩] w _
    go_enter Try.func42, Try.ntmps42
    go_wp2
    go_ret
    exact ⟨rfl, rfl⟩
  · show Calls Try.prog 42 #[.int .u32 4, .string ⟨#[99, 111, 112, 114, 111, 99]⟩] w _
    go_enter Try.func42, Try.ntmps42
    go_wp2
    go_ret
    exact ⟨rfl, rfl⟩
  · show Calls Try.prog 42 #[.int .u32 4, .string ⟨#[108, 101, 116]⟩] w _
    go_enter Try.func42, Try.ntmps42
    go_wp2
    go_ret
    exact ⟨rfl, rfl⟩
  · show Calls Try.prog 42 #[.int .u32 4, .string ⟨#[102, 117, 110, 99, 116, 105, 111, 110]⟩] w _
    go_enter Try.func42, Try.ntmps42
    go_wp2
    go_ret
    exact ⟨rfl, rfl⟩
  · show Calls Try.prog 42 #[.int .u32 4, .string ⟨#[100, 101, 99, 108, 97, 114, 101]⟩] w _
    go_enter Try.func42, Try.ntmps42
    go_wp2
    go_ret
    exact ⟨rfl, rfl⟩
  · show Calls Try.prog 42 #[.int .u32 4, .string ⟨#[108, 111, 99, 97, 108]⟩] w _
    go_enter Try.func42, Try.ntmps42
    go_wp2
    go_ret
    exact ⟨rfl, rfl⟩
  · show Calls Try.prog 42 #[.int .u32 4, .string ⟨#[101, 120, 112, 111, 114, 116]⟩] w _
    go_enter Try.func42, Try.ntmps42
    go_wp2
    go_ret
    exact ⟨rfl, rfl⟩
  · show Calls Try.prog 42 #[.int .u32 4, .string ⟨#[114, 101, 97, 100, 111, 110, 108, 121]⟩] w _
    go_enter Try.func42, Try.ntmps42
    go_wp2
    go_ret
    exact ⟨rfl, rfl⟩
  · show Calls Try.prog 42 #[.int .u32 4, .string ⟨#[116, 121, 112, 101, 115, 101, 116]⟩] w _
    go_enter Try.func42, Try.ntmps42
    go_wp2
    go_ret
    exact ⟨rfl, rfl⟩
  · show Calls Try.prog 42 #[.int .u32 4, .string ⟨#[110, 97, 109, 101, 114, 101, 102]⟩] w _
    go_enter Try.func42, Try.ntmps42
    go_wp2
    go_ret
    exact ⟨rfl, rfl⟩
set_option maxHeartbeats 4000000 in
theorem at_any (k : Nat) (hk : k < 16) (w : World) :
    Calls Try.prog 14 #[.int .i64 (k : Int)] w fun e w' => e = .returned (.string (wordT k)) ∧ w = w' := by
  have h : k = 0 ∨ k = 1 ∨ k = 2 ∨ k = 3 ∨ k = 4 ∨ k = 5 ∨ k = 6 ∨ k = 7 ∨ k = 8 ∨ k = 9 ∨ k = 10 ∨ k = 11 ∨ k = 12 ∨ k = 13 ∨ k = 14 ∨ k = 15 := by omega
  rcases h with rfl | rfl | rfl | rfl | rfl | rfl | rfl | rfl | rfl | rfl | rfl | rfl | rfl | rfl | rfl | rfl
  · show Calls Try.prog 14 #[.int .i64 0] w _
    go_enter Try.func14, Try.ntmps14
    go_wp2
    go_ret
    exact ⟨rfl, rfl⟩
  · show Calls Try.prog 14 #[.int .i64 1] w _
    go_enter Try.func14, Try.ntmps14
    go_wp2
    go_ret
    exact ⟨rfl, rfl⟩
  · show Calls Try.prog 14 #[.int .i64 2] w _
    go_enter Try.func14, Try.ntmps14
    go_wp2
    go_ret
    exact ⟨rfl, rfl⟩
  · show Calls Try.prog 14 #[.int .i64 3] w _
    go_enter Try.func14, Try.ntmps14
    go_wp2
    go_ret
    exact ⟨rfl, rfl⟩
  · show Calls Try.prog 14 #[.int .i64 4] w _
    go_enter Try.func14, Try.ntmps14
    go_wp2
    go_ret
    exact ⟨rfl, rfl⟩
  · show Calls Try.prog 14 #[.int .i64 5] w _
    go_enter Try.func14, Try.ntmps14
    go_wp2
    go_ret
    exact ⟨rfl, rfl⟩
  · show Calls Try.prog 14 #[.int .i64 6] w _
    go_enter Try.func14, Try.ntmps14
    go_wp2
    go_ret
    exact ⟨rfl, rfl⟩
  · show Calls Try.prog 14 #[.int .i64 7] w _
    go_enter Try.func14, Try.ntmps14
    go_wp2
    go_ret
    exact ⟨rfl, rfl⟩
  · show Calls Try.prog 14 #[.int .i64 8] w _
    go_enter Try.func14, Try.ntmps14
    go_wp2
    go_ret
    exact ⟨rfl, rfl⟩
  · show Calls Try.prog 14 #[.int .i64 9] w _
    go_enter Try.func14, Try.ntmps14
    go_wp2
    go_ret
    exact ⟨rfl, rfl⟩
  · show Calls Try.prog 14 #[.int .i64 10] w _
    go_enter Try.func14, Try.ntmps14
    go_wp2
    go_ret
    exact ⟨rfl, rfl⟩
  · show Calls Try.prog 14 #[.int .i64 11] w _
    go_enter Try.func14, Try.ntmps14
    go_wp2
    go_ret
    exact ⟨rfl, rfl⟩
  · show Calls Try.prog 14 #[.int .i64 12] w _
    go_enter Try.func14, Try.ntmps14
    go_wp2
    go_ret
    exact ⟨rfl, rfl⟩
  · show Calls Try.prog 14 #[.int .i64 13] w _
    go_enter Try.func14, Try.ntmps14
    go_wp2
    go_ret
    exact ⟨rfl, rfl⟩
  · show Calls Try.prog 14 #[.int .i64 14] w _
    go_enter Try.func14, Try.ntmps14
    go_wp2
    go_ret
    exact ⟨rfl, rfl⟩
  · show Calls Try.prog 14 #[.int .i64 15] w _
    go_enter Try.func14, Try.ntmps14
    go_wp2
    go_ret
    exact ⟨rfl, rfl⟩

theorem zis_of (tok : Int) (val : ByteArray) (b : Bool) (w : World) (h : Calls Try.prog 42 #[.int .u32 tok, .string val] w fun e w' => e = .returned (.bool b) ∧ w = w') :
    Calls Try.prog 15 #[.int .u32 tok, .string val] w fun e w' => e = .returned (.bool b) ∧ w = w' := by
  go_enter Try.func15, Try.ntmps15
  go_wp2_with fail
  refine h.mono ?_
  rintro e w' ⟨rfl, rfl⟩
  go_wp2_with fail
  go_ret
  exact ⟨rfl, rfl⟩

set_option maxHeartbeats 1000000 in
theorem walk (a0 a1 : Int) (a2 : ByteArray) (w : World) (w0 : (Lit.int .u32 a0).wf = true) (w1 : (Lit.int .i64 a1).wf = true) (w2 : a2.size ≤ maxLen) :
    Calls Try.prog 4 #[.int .u32 a0, .int .i64 a1, .string a2] w fun e w' => e = .returned (.bool true) ∧ Below w.heap.size w w' := by
  clear w0 w1 w2
  by_cases hb : 1048576 < a2.size
  · go_enter Try.func4, Try.ntmps4
    go_wp2_with (go_at_call 13; refine (zb_no _ _ _ _ hb).mono ?_; rintro e w' ⟨rfl, rfl⟩)
    go_ret
    exact ⟨rfl, Below.refl _ _⟩
  have hb1 : a2.size ≤ 1048576 := by omega
  by_cases hk0 : a1 < 0
  · go_enter Try.func4, Try.ntmps4
    go_wp2_with (go_at_call 13; refine (zb_any _ _ _ _ hb1).mono ?_; rintro e w' ⟨rfl, rfl⟩)
    go_ret
    exact ⟨rfl, Below.refl _ _⟩
  by_cases hk1 : 15 < a1
  · go_enter Try.func4, Try.ntmps4
    go_wp2_with (go_at_call 13; refine (zb_any _ _ _ _ hb1).mono ?_; rintro e w' ⟨rfl, rfl⟩)
    go_ret
    exact ⟨rfl, Below.refl _ _⟩
  obtain ⟨k, rfl⟩ : ∃ k : Nat, a1 = k := ⟨a1.toNat, by omega⟩
  have hk : k < 16 := by omega
  by_cases hz : a2.size = 0
  · have hz1 : ((a2.size : Int) == 0) = true := by simp [hz]
    have hz2 : (a2.size == 0) = true := by simp [hz]
    clear hz
    go_enter Try.func4, Try.ntmps4
    go_wp2_with (go_at_call 13; refine (zb_any _ _ _ _ hb1).mono ?_; rintro e w' ⟨rfl, rfl⟩)
    go_ret
    exact ⟨rfl, Below.refl _ _⟩
  have hz1 : ((a2.size : Int) == 0) = false := by simp [hz]
  have hz2 : (a2.size == 0) = false := by simp [hz]
  have hp : 0 < a2.size := by omega
  have hws := wordT_size k hk
  have hs1 : ¬ 9223372036854775807 < (wordT k).size + a2.size := by omega
  clear hz
  have hY := Lib.hid (isc_yes k hk)
  have hN := Lib.hid (fun w => isc_val (wordT k ++ a2) w (fun j hj => apart k j hk hj a2 hp))
  cases h1 : (a0 == 27)
  · cases h2 : (a0 == 28)
    · cases h3 : (a0 == 4)
      · have g1 : (a0 != 27) = true := by simp [bne, h1]
        have g2 : (a0 != 28) = true := by simp [bne, h2]
        have g3 : (a0 != 4) = true := by simp [bne, h3]
        go_enter Try.func4, Try.ntmps4
        go_wp2_with fail
        refine (zb_any _ _ _ _ hb1).mono ?_; rintro e w' ⟨rfl, rfl⟩
        go_wp2_with fail
        refine (at_any k hk _).mono ?_; rintro e w' ⟨rfl, rfl⟩
        go_wp2_with fail
        refine (zis_of _ _ _ _ (hY.out _)).mono ?_; rintro e w' ⟨rfl, rfl⟩
        go_wp2_with fail
        refine (zis_of _ _ _ _ (hN.out _)).mono ?_; rintro e w' ⟨rfl, rfl⟩
        go_wp2_with fail
        refine (zis_of _ _ _ _ (isc_tok a0 _ _ h1 h2 h3)).mono ?_; rintro e w' ⟨rfl, rfl⟩
        go_wp2_with fail
        go_ret
        exact ⟨rfl, Below.refl _ _⟩
      all_goals
        have g3 : (a0 != 4) = false := by simp [bne, h3]
        have g1 : (a0 != 27) = true := by simp [bne, h1]
        have g2 : (a0 != 28) = true := by simp [bne, h2]
        go_enter Try.func4, Try.ntmps4
        go_wp2_with fail
        refine (zb_any _ _ _ _ hb1).mono ?_; rintro e w' ⟨rfl, rfl⟩
        go_wp2_with fail
        refine (at_any k hk _).mono ?_; rintro e w' ⟨rfl, rfl⟩
        go_wp2_with fail
        refine (zis_of _ _ _ _ (hY.out _)).mono ?_; rintro e w' ⟨rfl, rfl⟩
        go_wp2_with fail
        refine (zis_of _ _ _ _ (hN.out _)).mono ?_; rintro e w' ⟨rfl, rfl⟩
        go_wp2_with fail
        go_ret
        exact ⟨rfl, Below.refl _ _⟩
    · have g1 : (a0 != 27) = true := by simp [bne, h1]
      have g2 : (a0 != 28) = false := by simp [bne, h2]
      go_enter Try.func4, Try.ntmps4
      go_wp2_with fail
      refine (zb_any _ _ _ _ hb1).mono ?_; rintro e w' ⟨rfl, rfl⟩
      go_wp2_with fail
      refine (at_any k hk _).mono ?_; rintro e w' ⟨rfl, rfl⟩
      go_wp2_with fail
      refine (zis_of _ _ _ _ (hY.out _)).mono ?_; rintro e w' ⟨rfl, rfl⟩
      go_wp2_with fail
      refine (zis_of _ _ _ _ (hN.out _)).mono ?_; rintro e w' ⟨rfl, rfl⟩
      go_wp2_with fail
      go_ret
      exact ⟨rfl, Below.refl _ _⟩
  · have g1 : (a0 != 27) = false := by simp [bne, h1]
    go_enter Try.func4, Try.ntmps4
    go_wp2_with fail
    refine (zb_any _ _ _ _ hb1).mono ?_; rintro e w' ⟨rfl, rfl⟩
    go_wp2_with fail
    refine (at_any k hk _).mono ?_; rintro e w' ⟨rfl, rfl⟩
    go_wp2_with fail
    refine (zis_of _ _ _ _ (hY.out _)).mono ?_; rintro e w' ⟨rfl, rfl⟩
    go_wp2_with fail
    refine (zis_of _ _ _ _ (hN.out _)).mono ?_; rintro e w' ⟨rfl, rfl⟩
    go_wp2_with fail
    go_ret
    exact ⟨rfl, Below.refl _ _⟩
end Go.Proofs.Ytoankohalfnemaa.fnIsBashCompoundCommandExactWordOnly
