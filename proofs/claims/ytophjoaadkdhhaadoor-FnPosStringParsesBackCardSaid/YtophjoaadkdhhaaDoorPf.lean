/- zzParseField at a numeral and at "?". Conditions: none. -/
import Derived.Test.YtophjoaadkdhhaaDoorChecked
import Derived.Test.YtophjoaadkdhhaaDoorKit
import Derived.Test.YtophjoaadkdhhaaDoorDig
import Derived.Handy
namespace Go.Proofs.YtophjoaadkdhhaaDoor
open Go.RowKit Go.Lib
set_option linter.unusedVariables false

set_option maxHeartbeats 1000000 in
theorem pf_q (w : World) :
    Calls Tryd.prog 6 #[.string ⟨#[63]⟩] w fun e w' => e = .returned (.tuple #[.int .u64 0, .bool true]) ∧ Below w.heap.size w w' := by
  go_enter Tryd.func6, Tryd.ntmps6
  go_wp2_with fail
  go_ret2
  exact ⟨rfl, by go_grown⟩

set_option maxHeartbeats 1000000 in
theorem pf_s (s : ByteArray) (g : Nat → Nat) (w : World) (hq : (s.toList == [63]) = false) (h1 : 1 ≤ s.size) (h2 : s.size ≤ 6) (hd : ∀ k (h : k < s.size), 48 ≤ s[k].toNat ∧ s[k].toNat ≤ 57) (hh : ((s[0].toNat : Int) == 48) = false) (g0 : g 0 = 0) (gs : ∀ k (h : k < s.size), g (k + 1) = g k * 10 + (s[k].toNat - 48)) (gb : ∀ k, k ≤ s.size → g k ≤ 999999) :
    Calls Tryd.prog 6 #[.string s] w fun e w' => e = .returned (.tuple #[.int .u64 (g s.size : Nat), .bool true]) ∧ Below w.heap.size w w' := by
  have e0 : ((s.size : Int) == 0) = false := beq_eq_false_iff_ne.2 (by omega)
  have e1 : (s.size : Int) ≤ 18 := by omega
  go_enter Tryd.func6, Tryd.ntmps6
  go_wp2_with fail
  go_loopw [4, 5] (fun v i wr => ∃ k : Nat, k ≤ s.size ∧ i = .int .i64 k ∧ v = .int .u64 (g k : Nat) ∧ Below w.heap.size w wr) (fun _ i _ => s.size - (intOf i).toNat)
  case atStart => exact ⟨0, Nat.zero_le _, rfl, by rw [g0]; rfl, by go_grown⟩
  case round =>
    obtain ⟨k, hk, rfl, rfl, hbel⟩ := hrel
    by_cases hlt : k < s.size
    · have d := hd k hlt
      have e := gs k hlt
      have b0 := gb k hk
      have b1 := gb (k + 1) hlt
      go_wp2
      go_roundw
      case rel =>
        exact ⟨k + 1, by omega, by go_num, by congr 1; omega, hbel⟩
      case measure => simp [intOf]; omega
    · obtain rfl : k = s.size := by omega
      go_wp2
      go_ret2
      exact ⟨rfl, hbel⟩
theorem ba_at (l : List UInt8) (k : Nat) (h : k < (⟨l.toArray⟩ : ByteArray).size) (h' : k < l.length) : (⟨l.toArray⟩ : ByteArray)[k] = l[k] := by
  show l.toArray[k] = l[k]
  simp
theorem ba_size (l : List UInt8) : (⟨l.toArray⟩ : ByteArray).size = l.length := by
  show l.toArray.size = l.length
  simp
theorem pf_dec (u : Nat) (h0 : 1 ≤ u) (h1 : u < 262144) (w : World) :
    Calls Tryd.prog 6 #[.string ⟨(Lib.decDigits u).toArray⟩] w fun e w' => e = .returned (.tuple #[.int .u64 u, .bool true]) ∧ Below w.heap.size w w' := by
  have hs := ba_size (Lib.decDigits u)
  have hd := dig_dec u
  have hp := pos_dec u
  have hn := len_dec u h1
  have hh := head_dec u h0 hp
  have key := pf_s ⟨(Lib.decDigits u).toArray⟩ (fun k => valFrom 0 ((Lib.decDigits u).take k)) w ?_ (by omega) (by omega) ?_ ?_ rfl ?_ ?_
  · simp only [hs, List.take_length, val_dec] at key
    exact key
  · rw [beq_eq_false_iff_ne]
    intro hc
    rw [ByteArray.toList_eq] at hc
    have := hd 63 (by simp at hc; rw [hc]; simp)
    simp at this
  · intro k hk
    rw [ba_at _ k hk (by omega)]
    exact hd _ (List.getElem_mem _)
  · rw [ba_at _ 0 (by omega) (by omega)]
    exact beq_eq_false_iff_ne.2 (by omega)
  · intro k hk
    rw [ba_at _ k hk (by omega)]
    exact val_step 0 _ k (by omega)
  · intro k hk
    have := val_lt ((Lib.decDigits u).take k) (fun c hc => hd c (List.mem_of_mem_take hc)) 0 0 (by omega)
    have h6 : ((Lib.decDigits u).take k).length ≤ 6 := by simp; omega
    have := Nat.pow_le_pow_right (n := 10) (by decide) (show 0 + ((Lib.decDigits u).take k).length ≤ 6 by omega)
    show valFrom 0 ((Lib.decDigits u).take k) ≤ 999999
    omega
theorem pf_field (n : Nat) (h1 : n < 262144) (w : World) :
    Calls Tryd.prog 6 #[.string ⟨(fieldB n).toArray⟩] w fun e w' => e = .returned (.tuple #[.int .u64 n, .bool true]) ∧ Below w.heap.size w w' := by
  by_cases h : n = 0
  · subst h
    exact pf_q w
  · rw [show fieldB n = Lib.decDigits n from if_neg h]
    exact pf_dec n (by omega) h1 w
end Go.Proofs.YtophjoaadkdhhaaDoor
