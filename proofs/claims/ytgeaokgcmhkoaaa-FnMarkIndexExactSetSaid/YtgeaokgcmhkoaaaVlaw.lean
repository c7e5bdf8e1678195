/- What the law's own helpers answer: valid names, literal words, the wrappers. Conditions: the name's size. -/
import Derived.Test.YtgeaokgcmhkoaaaVpe
import Derived.Test.YtgeaokgcmhkoaaaPeV
import Derived.Deep.QuietTactic
namespace Go.Proofs.Ytgeaokgcmhkoaaa
open Go.RowKit
set_option linter.unusedVariables false
set_option linter.unusedSimpArgs false

theorem ret_bool {a b : Bool} (h : a = b) : Ending.returned (.bool a) = .returned (.bool b) := by rw [h]
theorem vgo_step (s : ByteArray) (k b : Nat) (t : Bool) (hlt : k < s.size) (hb : (s[k]'hlt).toNat = b) (ht : okN b k = t) : vgo s (s.size - k) k = if t = true then vgo s (s.size - (k + 1)) (k + 1) else false := by
  rw [show s.size - k = (s.size - (k + 1)) + 1 by omega, vgo, get_at s k hlt, hb, ht]
set_option maxRecDepth 100000 in
set_option maxHeartbeats 8000000 in
theorem vb9_any (s : ByteArray) (w : World) (hs : s.size ≤ 4096) : Calls Try.prog 6 #[.string s] w fun e w' => e = .returned (.bool (vnB s)) ∧ w = w' := by
  by_cases h0 : s.size = 0
  · have e1 : ((s.size : Int) == 0) = true := by simp [h0]
    have hv : vnB s = false := by simp [vnB, h0]
    rw [hv]
    clear hv
    go_enter Try.func6, Try.ntmps6
    go_wp2_with fail
    go_ret
    exact ⟨rfl, rfl⟩
  have e1 : ((s.size : Int) == 0) = false := by rw [beq_eq_false_iff_ne]; omega
  obtain ⟨R, eR⟩ : ∃ R, vnB s = R := ⟨_, rfl⟩
  rw [eR]
  have HR := Lib.hid (show vgo s (s.size - 0) 0 = R by rw [← eR]; unfold vnB; rw [decide_eq_true (by omega), Bool.true_and, Nat.sub_zero])
  clear eR h0
  go_enter Try.func6, Try.ntmps6
  go_wp2_with fail
  clear e1
  go_loop [3] (fun i => ∃ k : Nat, k ≤ s.size ∧ i = .int .i64 k ∧ Hid (vgo s (s.size - k) k = R)) (fun i => s.size - (intOf i).toNat)
  case atStart => exact ⟨0, Nat.zero_le _, rfl, HR⟩
  case round =>
    obtain ⟨k, hk, rfl, HK⟩ := hrel
    clear HR
    by_cases hlt : k < s.size
    · obtain ⟨b, hb⟩ : ∃ b, (s[k]'hlt).toNat = b := ⟨_, rfl⟩
      have hb255 : b ≤ 255 := by have := (s[k]'hlt).toNat_lt; omega
      have HST := Lib.hid (fun t ht => vgo_step s k b t hlt hb ht)
      have hc : (b < 48) ∨ (48 ≤ b ∧ b ≤ 57) ∨ (58 ≤ b ∧ b ≤ 64) ∨ (65 ≤ b ∧ b ≤ 90) ∨ (91 ≤ b ∧ b ≤ 94) ∨ b = 95 ∨ b = 96 ∨ (97 ≤ b ∧ b ≤ 122) ∨ 123 ≤ b := by omega
      by_cases hk0 : k = 0
      · subst hk0
        rcases hc with h | h | h | h | h | h | h | h | h
        all_goals
          (first | (have dd : decide ((97 : Int) ≤ (b : Int)) = true := by (simp; omega)) | (have dd : decide ((97 : Int) ≤ (b : Int)) = false := by (simp; omega)))
          (first | (have dd : decide ((b : Int) ≤ 122) = true := by (simp; omega)) | (have dd : decide ((b : Int) ≤ 122) = false := by (simp; omega)))
          (first | (have dd : decide ((65 : Int) ≤ (b : Int)) = true := by (simp; omega)) | (have dd : decide ((65 : Int) ≤ (b : Int)) = false := by (simp; omega)))
          (first | (have dd : decide ((b : Int) ≤ 90) = true := by (simp; omega)) | (have dd : decide ((b : Int) ≤ 90) = false := by (simp; omega)))
          (first | (have dd : decide ((48 : Int) ≤ (b : Int)) = true := by (simp; omega)) | (have dd : decide ((48 : Int) ≤ (b : Int)) = false := by (simp; omega)))
          (first | (have dd : decide ((b : Int) ≤ 57) = true := by (simp; omega)) | (have dd : decide ((b : Int) ≤ 57) = false := by (simp; omega)))
          first
          | (have ho : okN b 0 = true := by (simp [okN, letterN, digitN]; omega)
             have hq : ((b : Int) == 95) = decide (b = 95) := by (rw [Bool.eq_iff_iff]; simp; omega)
             have HN := Lib.hid ((HST.out _ ho).symm.trans HK.out)
             clear HST ho HK
             (try subst h)
             go_wp2_with fail
             go_round
             case rel => exact ⟨0 + 1, by omega, by go_num, Lib.hid (by simpa using HN.out)⟩
             case measure => simp [intOf]; omega)
          | (have ho : okN b 0 = false := by (simp [okN, letterN, digitN]; omega)
             have hq : ((b : Int) == 95) = false := by (simp; omega)
             have HN := Lib.hid ((HST.out _ ho).symm.trans HK.out)
             clear HST ho HK
             (try subst h)
             go_wp2_with fail
             go_ret
             exact ⟨ret_bool (by simpa using HN.out), rfl⟩)
      · have hp : (0 : Int) < (k : Int) := by omega
        have hp2 : decide ((0 : Int) < (k : Int)) = true := by (simp; omega)
        rcases hc with h | h | h | h | h | h | h | h | h
        all_goals
          (first | (have dd : decide ((97 : Int) ≤ (b : Int)) = true := by (simp; omega)) | (have dd : decide ((97 : Int) ≤ (b : Int)) = false := by (simp; omega)))
          (first | (have dd : decide ((b : Int) ≤ 122) = true := by (simp; omega)) | (have dd : decide ((b : Int) ≤ 122) = false := by (simp; omega)))
          (first | (have dd : decide ((65 : Int) ≤ (b : Int)) = true := by (simp; omega)) | (have dd : decide ((65 : Int) ≤ (b : Int)) = false := by (simp; omega)))
          (first | (have dd : decide ((b : Int) ≤ 90) = true := by (simp; omega)) | (have dd : decide ((b : Int) ≤ 90) = false := by (simp; omega)))
          (first | (have dd : decide ((48 : Int) ≤ (b : Int)) = true := by (simp; omega)) | (have dd : decide ((48 : Int) ≤ (b : Int)) = false := by (simp; omega)))
          (first | (have dd : decide ((b : Int) ≤ 57) = true := by (simp; omega)) | (have dd : decide ((b : Int) ≤ 57) = false := by (simp; omega)))
          first
          | (have ho : okN b k = true := by (simp [okN, letterN, digitN]; omega)
             have hq : ((b : Int) == 95) = decide (b = 95) := by (rw [Bool.eq_iff_iff]; simp; omega)
             have HN := Lib.hid ((HST.out _ ho).symm.trans HK.out)
             clear HST ho HK
             (try subst h)
             go_wp2_with fail
             go_round
             case rel => exact ⟨k + 1, by omega, by go_num, Lib.hid (by simpa using HN.out)⟩
             case measure => simp [intOf]; omega)
          | (have ho : okN b k = false := by (simp [okN, letterN, digitN]; omega)
             have hq : ((b : Int) == 95) = false := by (simp; omega)
             have HN := Lib.hid ((HST.out _ ho).symm.trans HK.out)
             clear HST ho HK
             (try subst h)
             go_wp2_with fail
             go_ret
             exact ⟨ret_bool (by simpa using HN.out), rfl⟩)
    · have e : s.size - k = 0 := by omega
      have HE := Lib.hid (show true = R by have := HK.out; rw [e] at this; exact this)
      clear e HK
      go_wp2_with fail
      go_ret
      exact ⟨ret_bool HE.out, rfl⟩
set_option maxHeartbeats 1000000 in
theorem lw_any (v : ByteArray) (w : World) : Calls Try.prog 7 #[.string v] w fun e w' => e = .returned (.pointer (some ⟨w.heap.size + 1 + 1, 0, none⟩)) ∧ w' = ((w.alloc (.cells #[.int .u32 0, .int .u32 0, .int .u32 0, .int .u32 0, .string v] 29)).alloc (.cells #[.iface 24 (.pointer (some ⟨w.heap.size, 0, none⟩))] 32)).alloc (.cells #[.slice (some ⟨w.heap.size + 1, 0, none⟩) 1 1] 45) := by
  go_enter Try.func7, Try.ntmps7
  go_wp2_with fail
  go_ret
  exact ⟨rfl, by simp⟩
set_option maxHeartbeats 1000000 in
theorem zm_any (sb c : Nat) (m : Bool) (w : World) (h : Simp w sb c m) : Calls Try.prog 10 #[.pointer (some ⟨sb, 0, none⟩)] w fun e w' => e = .returned (.bool m) ∧ w = w' := by
  have c0 := h.1
  have z := h.lt
  clear h
  go_enter Try.func10, Try.ntmps10
  go_wp2_with fail
  go_ret
  exact ⟨rfl, rfl⟩
set_option maxHeartbeats 1000000 in
theorem zv_any (p x : Value) (w : World) (Q : World → Prop) (h : Calls Try.prog 18 #[p, x] w fun e w' => e = .returned (.tuple #[]) ∧ Q w') : Calls Try.prog 9 #[p, x] w fun e w' => e = .returned (.tuple #[]) ∧ Q w' := by
  have H := Lib.hid h
  clear h
  go_enter Try.func9, Try.ntmps9
  go_wp2_with (go_at_call 18; refine H.out.mono ?_; rintro e w2 ⟨rfl, hQ⟩; have HQ := Lib.hid hQ; clear hQ)
  exact bodyPost_end (v := .tuple #[]) (by simp [results, Try.results9]) rfl ⟨rfl, HQ.out⟩
end Go.Proofs.Ytgeaokgcmhkoaaa
