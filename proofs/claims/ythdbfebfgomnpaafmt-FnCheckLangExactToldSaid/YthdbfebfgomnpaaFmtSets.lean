/- Sets of variants as bits: what the program's tests say. No program. -/
import Derived.Laws.Bits128
import Derived.Test.YthdbfebfgomnpaaFmtBits
namespace Go.Proofs.YthdbfebfgomnpaaFmt
set_option linter.unusedVariables false
set_option linter.unusedSimpArgs false

theorem w_toInt (b : BitVec 64) : IntKind.i64.wrap (b.toNat : Int) = b.toInt := by
  rw [IntKind.wrap_i64, BitVec.toInt_eq_toNat_cond]
  have := b.isLt
  split <;> omega
theorem and_v (x y : Int) : Go.bits .and .i64 x y = (BitVec.ofInt 64 x &&& BitVec.ofInt 64 y).toInt := w_toInt _
theorem andNot_v (x y : Int) : Go.bits .andNot .i64 x y = (BitVec.ofInt 64 x &&& ~~~ BitVec.ofInt 64 y).toInt := w_toInt _
theorem ofInt_toInt (b : BitVec 64) : BitVec.ofInt 64 b.toInt = b := BitVec.ofInt_toInt
theorem toInt_of (z : Int) (h : -9223372036854775808 ≤ z ∧ z ≤ 9223372036854775807) : (BitVec.ofInt 64 z).toInt = z := by
  rw [BitVec.toInt_ofInt]
  exact Int.bmod_eq_of_le (by omega) (by omega)
theorem toInt_ne (b c : BitVec 64) : (b.toInt == c.toInt) = (b == c) := by
  rw [Bool.eq_iff_iff]
  simp [BitVec.toInt_inj]
theorem toInt_zero (b : BitVec 64) : (b.toInt == 0) = (b == 0#64) := toInt_ne b 0#64

/-- what is accepted: the two spellings -/
theorem in_iff (a s : Int) (ha : -9223372036854775808 ≤ a ∧ a ≤ 9223372036854775807) : (Go.bits .and .i64 a s == a) = (Go.bits .andNot .i64 a s == 0) := by
  have e : (Go.bits .and .i64 a s == a) = (Go.bits .and .i64 a s == (BitVec.ofInt 64 a).toInt) := by rw [toInt_of a ha]
  rw [e, and_v, andNot_v, toInt_ne, toInt_zero]
  generalize BitVec.ofInt 64 a = x
  generalize BitVec.ofInt 64 s = y
  rw [Bool.eq_iff_iff]
  simp only [beq_iff_eq]
  constructor
  · intro h
    apply BitVec.eq_of_getLsbD_eq
    intro i hi
    have := congrArg (·.getLsbD i) h
    simp [hi] at this ⊢
    exact this
  · intro h
    apply BitVec.eq_of_getLsbD_eq
    intro i hi
    have := congrArg (·.getLsbD i) h
    simp [hi] at this ⊢
    exact this
theorem bit_and (y : BitVec 64) (k : Nat) (hk : k < 64) : (y &&& BitVec.ofNat 64 (2 ^ k) == 0#64) = !(y.getLsbD k) := by
  rw [Bool.eq_iff_iff]
  simp only [beq_iff_eq, Bool.not_eq_true']
  constructor
  · intro h
    have this : (y &&& BitVec.ofNat 64 (2 ^ k)).getLsbD k = (0#64).getLsbD k := by rw [h]
    rw [BitVec.getLsbD_and, BitVec.getLsbD_ofNat, Nat.testBit_two_pow] at this
    simpa [hk] using this
  · intro h
    apply BitVec.eq_of_getLsbD_eq
    intro i hi
    simp only [BitVec.getLsbD_and, BitVec.getLsbD_ofNat, Nat.testBit_two_pow, BitVec.getLsbD_zero]
    by_cases e : k = i
    · subst e; simp [h]
    · simp [e]
theorem nine_and (y : BitVec 64) : (9#64 &&& y == 9#64) = (y.getLsbD 0 && y.getLsbD 3) := by
  rw [Bool.eq_iff_iff]
  simp only [beq_iff_eq, Bool.and_eq_true]
  constructor
  · intro h
    have h0 := congrArg (·.getLsbD 0) h
    have h3 := congrArg (·.getLsbD 3) h
    exact ⟨by simpa using h0, by simpa using h3⟩
  · rintro ⟨h0, h3⟩
    apply BitVec.eq_of_getLsbD_eq
    intro i hi
    rw [BitVec.getLsbD_and, BitVec.getLsbD_ofNat, show (9 : Nat) = 2 ^ 0 ||| 2 ^ 3 by decide, Nat.testBit_or, Nat.testBit_two_pow, Nat.testBit_two_pow]
    by_cases e : 0 = i
    · subst e; simp [h0]
    · by_cases e3 : 3 = i
      · subst e3; simp [h3]
      · simp [e, e3]
theorem hasB_at (s n : Int) (k : Nat) (hk : k < 64) (hn : BitVec.ofInt 64 n = BitVec.ofNat 64 (2 ^ k)) : hasB s n = (BitVec.ofInt 64 s).getLsbD k := by
  unfold hasB
  rw [and_v, toInt_zero, hn, bit_and _ k hk, Bool.not_not]
/-- what the law's own case table names -/
def dropB (s : Int) : Bool := hasB s 1 && hasB s 8
def mdl (s : Int) : List Int := pows.filter fun v => hasB s v && !(v == 8 && dropB s)
/-- the set behind the refusal's own cut -/
def cutS (s : Int) : Int := if (Go.bits .and .i64 9 s == 9) = true then Go.bits .andNot .i64 s 8 else s
theorem nine_is (s : Int) : (Go.bits .and .i64 9 s == 9) = dropB s := by
  have e : (Go.bits .and .i64 9 s == 9) = (Go.bits .and .i64 9 s == (9#64).toInt) := rfl
  rw [e, and_v, toInt_ne, dropB, hasB_at s 1 0 (by decide) rfl, hasB_at s 8 3 (by decide) rfl]
  exact nine_and _
theorem cut_has (s n : Int) (k : Nat) (hk : k < 64) (hn : BitVec.ofInt 64 n = BitVec.ofNat 64 (2 ^ k)) : hasB (Go.bits .andNot .i64 s 8) n = (hasB s n && !(decide (3 = k))) := by
  rw [hasB_at _ n k hk hn, hasB_at s n k hk hn, andNot_v, ofInt_toInt]
  have e8 : BitVec.ofInt 64 8 = BitVec.ofNat 64 (2 ^ 3) := rfl
  rw [e8, BitVec.getLsbD_and, BitVec.getLsbD_not, BitVec.getLsbD_ofNat, Nat.testBit_two_pow]
  simp [hk]
theorem cut_is (s : Int) : bitsTo (cutS s) 5 = mdl s := by
  unfold bitsTo mdl
  rw [show pows.take 5 = pows from rfl]
  apply List.filter_congr
  intro v hv
  unfold cutS
  rw [nine_is]
  cases hd : dropB s
  · simp
  · simp only [if_true]
    simp only [pows, List.mem_cons, List.not_mem_nil, or_false] at hv
    rcases hv with rfl | rfl | rfl | rfl | rfl
    · rw [cut_has s 1 0 (by decide) rfl]; simp
    · rw [cut_has s 2 1 (by decide) rfl]; simp
    · rw [cut_has s 4 2 (by decide) rfl]; simp
    · rw [cut_has s 8 3 (by decide) rfl]; simp
    · rw [cut_has s 16 4 (by decide) rfl]; simp
end Go.Proofs.YthdbfebfgomnpaaFmt
