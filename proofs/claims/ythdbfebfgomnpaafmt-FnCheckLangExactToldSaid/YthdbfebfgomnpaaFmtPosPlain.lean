/- Plain functions on raw positions (offset, line-and-column word) and their laws: no program in sight. Conditions: none. -/
import Derived.WalkKit
import Derived.Laws.BitsAllLaws
namespace Go.Proofs.YthdbfebfgomnpaaFmt
open Go.RowKit

/-- the offset that NewPos keeps -/
def offCap (o : Int) : Int := if 4294967284 < o then 4294967284 else o
def lineIn (l : Int) : Int := if 262143 < l then 0 else l
def colIn (c : Int) : Int := if 16383 < c then 0 else c
/-- the word that NewPos keeps -/
def lcOf (l c : Int) : Int := lineIn l * 16384 + colIn c
def validB (o lc : Int) : Bool := decide (o ≤ 4294967284 ∧ lc ≠ 0)
def offOf (o : Int) : Int := if 4294967284 < o then 0 else o
def lineOf (lc : Int) : Int := lc / 16384
def colOf (lc : Int) : Int := lc % 16384
def addO (o lc n : Int) : Int := if validB o lc = true then (if o + n < 0 then 0 else if 4294967284 < o + n then 4294967284 else o + n) else o
def addCol (lc n : Int) : Int := if lc % 16384 = 0 then 0 else if lc % 16384 + n < 1 then 0 else if 16383 < lc % 16384 + n then 0 else lc % 16384 + n
def addLc (o lc n : Int) : Int := if validB o lc = true then lc / 16384 * 16384 + addCol lc n else lc

theorem and_col (lc : Int) (h1 : 0 ≤ lc) (h2 : lc ≤ 4294967295) : bits .and .u32 lc 16383 = lc % 16384 := by
  rw [u32_and lc 16383 h1 (by omega) (by omega) (by omega)]
  have : lc.toNat &&& (16383 : Int).toNat = lc.toNat % 16384 := Nat.and_two_pow_sub_one_eq_mod lc.toNat 14
  rw [this]; omega

theorem andNot_col (lc : Int) (h1 : 0 ≤ lc) (h2 : lc ≤ 4294967295) : bits .andNot .u32 lc 16383 = lc / 16384 * 16384 := by
  rw [u32_andNot lc 16383 h1 (by omega) (by omega) (by omega)]
  obtain ⟨n, rfl⟩ := Int.eq_ofNat_of_zero_le h1
  have key : n &&& (4294967295 - (16383 : Int).toNat) = n / 16384 * 16384 := by
    have e : (4294967295 - (16383 : Int).toNat) = 262143 <<< 14 := by decide
    rw [e]
    apply Nat.eq_of_testBit_eq
    intro i
    have e2 : n / 16384 * 16384 = (n >>> 14) <<< 14 := by rw [Nat.shiftLeft_eq, Nat.shiftRight_eq_div_pow]
    rw [e2, Nat.testBit_and, Nat.testBit_shiftLeft, Nat.testBit_shiftLeft, Nat.testBit_shiftRight]
    by_cases hi : 14 ≤ i
    · have e3 : 14 + (i - 14) = i := by omega
      rw [e3, show (262143 : Nat) = 2 ^ 18 - 1 from rfl, Nat.testBit_two_pow_sub_one]
      by_cases hj : i - 14 < 18
      · simp [hi, hj]
      · have : n.testBit i = false := Nat.testBit_lt_two_pow (Nat.lt_of_lt_of_le (show n < 2 ^ 32 by omega) (Nat.pow_le_pow_right (by omega) (by omega)))
        simp [this]
    · simp [hi]
  have e4 : (n : Int).toNat = n := by omega
  rw [e4, key]; omega

theorem or_col (a c : Int) (h1 : 0 ≤ a) (h2 : a ≤ 262143) (h3 : 0 ≤ c) (h4 : c ≤ 16383) : bits .or .u32 (a * 16384) c = a * 16384 + c := by
  rw [u32_or (a * 16384) c (by omega) (by omega) (by omega) (by omega)]
  rw [nat_join 14 (a * 16384).toNat c.toNat (by omega) (by omega)]
  omega
theorem or_zero (c : Int) (h3 : 0 ≤ c) (h4 : c ≤ 16383) : bits .or .u32 0 c = c := by
  have := or_col 0 c (by omega) (by omega) h3 h4
  simpa using this

theorem addO_is {o lc n r : Int} (h1 : o ≤ 4294967284) (h3 : (lc != 0) = true) (h : (o + n < 0 ∧ r = 0) ∨ (4294967284 < o + n ∧ r = 4294967284) ∨ (0 ≤ o + n ∧ o + n ≤ 4294967284 ∧ r = o + n)) : r = addO o lc n := by
  have hv : validB o lc = true := by simpa [validB, h1] using h3
  rw [addO, if_pos hv]
  repeat' split
  all_goals omega

theorem addLc_is {o lc n r : Int} (h1 : o ≤ 4294967284) (h3 : (lc != 0) = true) (h : (lc % 16384 = 0 ∧ r = lc / 16384 * 16384) ∨ (lc % 16384 ≠ 0 ∧ (lc % 16384 + n < 1 ∨ 16383 < lc % 16384 + n) ∧ r = lc / 16384 * 16384) ∨ (lc % 16384 ≠ 0 ∧ 1 ≤ lc % 16384 + n ∧ lc % 16384 + n ≤ 16383 ∧ r = lc / 16384 * 16384 + (lc % 16384 + n))) : r = addLc o lc n := by
  have hv : validB o lc = true := by simpa [validB, h1] using h3
  rw [addLc, if_pos hv, addCol]
  repeat' split
  all_goals omega

theorem addO_no {o lc n : Int} (h : 4294967284 < o ∨ lc = 0) : o = addO o lc n := by
  have hv : ¬ validB o lc = true := by simp [validB]; omega
  rw [addO, if_neg hv]
theorem addLc_no {o lc n : Int} (h : 4294967284 < o ∨ lc = 0) : lc = addLc o lc n := by
  have hv : ¬ validB o lc = true := by simp [validB]; omega
  rw [addLc, if_neg hv]

theorem ret_pos {a b c d : Int} (h1 : a = c) (h2 : b = d) : Ending.returned (.agg #[.int .u32 a, .int .u32 b]) = .returned (.agg #[.int .u32 c, .int .u32 d]) := by rw [h1, h2]
theorem pos_at {a b c d : Int} (w : World) (t : TypeId) (h1 : a = c) (h2 : b = d) : Ending.returned (.agg #[.int .u32 a, .int .u32 b]) = .returned (.agg #[.int .u32 c, .int .u32 d]) ∧ w.alloc (.cells #[.int .u32 a, .int .u32 b] t) = w.alloc (.cells #[.int .u32 c, .int .u32 d] t) := by rw [h1, h2]; exact ⟨rfl, rfl⟩
theorem offCap_in (o : Int) (h : 0 ≤ o) : 0 ≤ offCap o ∧ offCap o ≤ 4294967284 := by unfold offCap; split <;> omega
theorem lcOf_in (l c : Int) (hl : 0 ≤ l) (hc : 0 ≤ c) : 0 ≤ lcOf l c ∧ lcOf l c ≤ 4294967295 := by
  unfold lcOf lineIn colIn
  repeat' split
  all_goals omega
theorem addCol_in (lc n : Int) : 0 ≤ addCol lc n ∧ addCol lc n ≤ 16383 := by
  unfold addCol
  repeat' split
  all_goals omega
theorem addO_in (o lc n : Int) (ho : 0 ≤ o ∧ o ≤ 4294967295) : 0 ≤ addO o lc n ∧ addO o lc n ≤ 4294967295 := by
  unfold addO
  repeat' split
  all_goals omega
theorem addLc_in (o lc n : Int) (hl : 0 ≤ lc ∧ lc ≤ 4294967295) : 0 ≤ addLc o lc n ∧ addLc o lc n ≤ 4294967295 := by
  have := addCol_in lc n
  unfold addLc
  repeat' split
  all_goals omega
theorem ret_int {k : IntKind} {a b : Int} (h : a = b) : Ending.returned (.int k a) = .returned (.int k b) := by rw [h]
theorem ret_bool {a b : Bool} (h : a = b) : Ending.returned (.bool a) = .returned (.bool b) := by rw [h]
end Go.Proofs.YthdbfebfgomnpaaFmt
