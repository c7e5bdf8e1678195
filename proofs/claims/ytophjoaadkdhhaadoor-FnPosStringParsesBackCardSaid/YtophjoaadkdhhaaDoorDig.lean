/- Decimal numerals: length, digits, value. No program. -/
import Derived.Lib.ItoaNum
import Derived.Lib.UnsafeStr
namespace Go.Proofs.YtophjoaadkdhhaaDoor
open Go.Lib

def fieldB (n : Nat) : List UInt8 := if n = 0 then [63] else Lib.decDigits n
def posL (l c : Nat) : List UInt8 := fieldB l ++ (58 :: fieldB c)

theorem nd_le : ∀ (k u : Nat), u < 10 ^ (k + 1) → Lib.nDigits u ≤ k + 1
  | 0, u, h => by rw [Lib.nDigits_small (by simpa using h)]; omega
  | k + 1, u, h => by
    rcases Nat.lt_or_ge u 10 with h1 | h1
    · rw [Lib.nDigits_small h1]; omega
    · rw [Lib.nDigits_big (by omega)]
      have := nd_le k (u / 10) (by rw [Nat.pow_succ] at h; omega)
      omega
theorem len_dec (u : Nat) (h : u < 262144) : (Lib.decDigits u).length ≤ 6 := by
  rw [Lib.decDigits_length]
  exact nd_le 5 u (by omega)
theorem pos_dec (u : Nat) : 1 ≤ (Lib.decDigits u).length := by
  rw [Lib.decDigits_length]
  exact Lib.nDigits_pos u

/-- The value that the reading loop reckons. -/
def valFrom (v : Nat) (l : List UInt8) : Nat := l.foldl (fun v c => v * 10 + (c.toNat - 48)) v
theorem val_dec (u : Nat) : valFrom 0 (Lib.decDigits u) = u := by
  induction u using Nat.strongRecOn with
  | _ u ih =>
    by_cases h : u < 10
    · rw [Lib.decDigits, dif_pos h]
      simp only [valFrom, List.foldl_cons, List.foldl_nil, UInt8.toNat_ofNat']
      omega
    · rw [Lib.decDigits, dif_neg h]
      have := ih (u / 10) (by omega)
      simp only [valFrom, List.foldl_append, List.foldl_cons, List.foldl_nil, UInt8.toNat_ofNat'] at this ⊢
      rw [this]
      omega
theorem dig_dec (u : Nat) : ∀ c ∈ Lib.decDigits u, 48 ≤ c.toNat ∧ c.toNat ≤ 57 := by
  induction u using Nat.strongRecOn with
  | _ u ih =>
    intro c hc
    by_cases h : u < 10
    · rw [Lib.decDigits, dif_pos h] at hc
      simp only [List.mem_singleton] at hc
      subst hc
      simp only [UInt8.toNat_ofNat']
      omega
    · rw [Lib.decDigits, dif_neg h] at hc
      rcases List.mem_append.1 hc with hc | hc
      · exact ih (u / 10) (by omega) c hc
      · simp only [List.mem_singleton] at hc
        subst hc
        simp only [UInt8.toNat_ofNat']
        omega
theorem head_dec (u : Nat) (h0 : 1 ≤ u) (hl : 0 < (Lib.decDigits u).length) : (Lib.decDigits u)[0].toNat ≠ 48 := by
  induction u using Nat.strongRecOn with
  | _ u ih =>
    by_cases h : u < 10
    · have e : Lib.decDigits u = [UInt8.ofNat (48 + u)] := Lib.decDigits_one h
      simp only [e, List.getElem_cons_zero, UInt8.toNat_ofNat']
      omega
    · have e : Lib.decDigits u = Lib.decDigits (u / 10) ++ [UInt8.ofNat (48 + u % 10)] := by rw [Lib.decDigits, dif_neg h]
      have hp := pos_dec (u / 10)
      simp only [e, List.getElem_append_left hp]
      exact ih (u / 10) (by omega) (by omega) hp

theorem field_len (n : Nat) (h : n < 262144) : 1 ≤ (fieldB n).length ∧ (fieldB n).length ≤ 6 := by
  unfold fieldB
  split
  · simp
  · exact ⟨pos_dec n, len_dec n h⟩
theorem field_colon (n : Nat) : ∀ c ∈ fieldB n, c.toNat ≠ 58 := by
  unfold fieldB
  split
  · simp
  · intro c hc
    have := dig_dec n c hc
    omega
/-- What a reading of a prefix gives. -/
theorem val_step (v : Nat) (l : List UInt8) (k : Nat) (hk : k < l.length) : valFrom v (l.take (k + 1)) = valFrom v (l.take k) * 10 + (l[k].toNat - 48) := by
  rw [List.take_succ_eq_append_getElem hk]
  simp only [valFrom, List.foldl_append, List.foldl_cons, List.foldl_nil]
theorem val_lt : ∀ (l : List UInt8), (∀ c ∈ l, 48 ≤ c.toNat ∧ c.toNat ≤ 57) → ∀ v k : Nat, v < 10 ^ k → valFrom v l < 10 ^ (k + l.length)
  | [], _, v, k, hv => by simpa [valFrom] using hv
  | c :: l, h, v, k, hv => by
    have hc := h c (by simp)
    have := val_lt l (fun x hx => h x (by simp [hx])) (v * 10 + (c.toNat - 48)) (k + 1) (by rw [Nat.pow_succ]; omega)
    simp only [valFrom, List.foldl_cons, List.length_cons] at this ⊢
    rw [show k + (l.length + 1) = k + 1 + l.length by omega]
    exact this
end Go.Proofs.YtophjoaadkdhhaaDoor
