/- What the token's String answers at every value, told of the two tables. Conditions: the two tables' cells. -/
import Derived.Test.YtpecmkpgbckpcaaDoorToken
import Derived.Test.YtpecmkpgbckpcaaDoorShelf
import Derived.Lib.SmallJoins
import Derived.Lib.LaidTab
import Derived.Lib.ItoaLen
import Derived.Lib.AppendIntMem
import Derived.LaidMore
import Derived.LaidLaws
namespace Go.Proofs.YtpecmkpgbckpcaaDoor
open Go.RowKit
set_option linter.unusedVariables false

/-- The table's numbers, read off the row's own datum. -/
def idxL : List Int :=
  match (Rows.laid_mvdan_cc_sh_v3_syntax_token_index : DataW Unit) with
  | .agg l => l.map fun d => match d with
    | .lit (.int _ z) => z
    | _ => 0
  | _ => []
theorem idxL_len : idxL.length = 145 := by kernel_rfl
theorem idxL_rise : ∀ k : Fin 144, 0 ≤ idxL.getD k.val 0 ∧ idxL.getD k.val 0 ≤ idxL.getD (k.val + 1) 0 ∧ idxL.getD (k.val + 1) 0 ≤ 320 := by decide +kernel
noncomputable def tokRow (k : Nat) : ByteArray := tokName.extract (idxL.getD k 0).toNat (idxL.getD (k + 1) 0).toNat
/-- x's text: a row of the table, or one longer than any row. -/
def TokStr (x : Int) (s : ByteArray) : Prop := (∃ k : Nat, k < 144 ∧ x = k ∧ s = tokRow k) ∨ (144 ≤ x ∧ 7 ≤ s.size)

set_option maxHeartbeats 1000000 in
set_option maxRecDepth 100000 in
theorem tok_any (x : Int) (hx0 : 0 ≤ x) (hx1 : x ≤ 4294967295) (w : World) (hT : Lib.TabIs Tryd.prog w ("mvdan.cc/sh/v3/syntax._token_index") .u16 idxL) (hP : Lib.TabIs Tryd.prog w "internal/strconv.uint64pow10" .u64 Lib.pow10Tab) :
    Calls Tryd.prog 15 #[.int .u32 x] w fun e w' => (∃ s, e = .returned (.string s) ∧ TokStr x s) ∧ Below w.heap.size w w' := by
  by_cases hx : x < 144
  · obtain ⟨k, rfl⟩ : ∃ k : Nat, x = k := ⟨x.toNat, by omega⟩
    have hk : k < 144 := by omega
    obtain ⟨r0, r1, r2⟩ := idxL_rise ⟨k, hk⟩
    simp only at r0 r1 r2
    have c0 := hT.cell (g := 0) (by kernel_rfl) k (by rw [idxL_len]; omega)
    have c1 := hT.cell (g := 0) (by kernel_rfl) (k + 1) (by rw [idxL_len]; omega)
    refine (tok_low k hk (idxL.getD k 0).toNat (idxL.getD (k + 1) 0).toNat w (by rw [c0, Int.toNat_of_nonneg r0]) (by rw [c1, Int.toNat_of_nonneg (by omega)]) (by omega) (by omega)).mono ?_
    rintro e w' ⟨rfl, n, rfl⟩
    exact ⟨⟨_, rfl, Or.inl ⟨k, hk, rfl, rfl⟩⟩, ⟨rfl, rfl, rfl, Nat.le_refl _, fun _ _ => rfl⟩⟩
  · go_enter Tryd.func15, Tryd.ntmps15
    go_wp2_with fail
    refine (Tryd.strconv_FormatInt_10 x (by omega) (by omega) _ hP).mono ?_
    rintro e w' ⟨rfl, n, os, rfl⟩
    have hlen := Lib.itoa_length_le x (by omega) (by omega)
    have l1 : ¬ 9223372036854775807 < 6 + (Lib.itoa x).length := by omega
    have l2 : ¬ 9223372036854775807 < 6 + (Lib.itoa x).length + 1 := by omega
    go_wp2_with fail
    go_ret
    refine ⟨⟨_, rfl, Or.inr ⟨by omega, ?_⟩⟩, Lib.below_grow _ _ (Nat.le_refl _) _ _⟩
    simp only [ByteArray.size_append]
    show 7 ≤ 6 + _ + 1
    omega

set_option maxHeartbeats 1000000 in
theorem sBinArit_any (x : Int) (hx0 : 0 ≤ x) (hx1 : x ≤ 4294967295) (w : World) (hT : Lib.TabIs Tryd.prog w "mvdan.cc/sh/v3/syntax._token_index" .u16 idxL) (hP : Lib.TabIs Tryd.prog w "internal/strconv.uint64pow10" .u64 Lib.pow10Tab) :
    Calls Tryd.prog 7 #[.int .u32 x] w fun e w' => (∃ s, e = .returned (.string s) ∧ TokStr x s) ∧ Below w.heap.size w w' := by
  go_enter Tryd.func7, Tryd.ntmps7
  go_wp2_with fail
  refine (tok_any x hx0 hx1 _ hT hP).mono ?_
  rintro e w' ⟨⟨s, rfl, hs⟩, hb⟩
  go_wp2_with fail
  go_ret
  exact ⟨⟨s, rfl, hs⟩, hb⟩

set_option maxHeartbeats 1000000 in
theorem sBinTest_any (x : Int) (hx0 : 0 ≤ x) (hx1 : x ≤ 4294967295) (w : World) (hT : Lib.TabIs Tryd.prog w "mvdan.cc/sh/v3/syntax._token_index" .u16 idxL) (hP : Lib.TabIs Tryd.prog w "internal/strconv.uint64pow10" .u64 Lib.pow10Tab) :
    Calls Tryd.prog 9 #[.int .u32 x] w fun e w' => (∃ s, e = .returned (.string s) ∧ TokStr x s) ∧ Below w.heap.size w w' := by
  go_enter Tryd.func9, Tryd.ntmps9
  go_wp2_with fail
  refine (tok_any x hx0 hx1 _ hT hP).mono ?_
  rintro e w' ⟨⟨s, rfl, hs⟩, hb⟩
  go_wp2_with fail
  go_ret
  exact ⟨⟨s, rfl, hs⟩, hb⟩

set_option maxHeartbeats 1000000 in
theorem sUnArit_any (x : Int) (hx0 : 0 ≤ x) (hx1 : x ≤ 4294967295) (w : World) (hT : Lib.TabIs Tryd.prog w "mvdan.cc/sh/v3/syntax._token_index" .u16 idxL) (hP : Lib.TabIs Tryd.prog w "internal/strconv.uint64pow10" .u64 Lib.pow10Tab) :
    Calls Tryd.prog 11 #[.int .u32 x] w fun e w' => (∃ s, e = .returned (.string s) ∧ TokStr x s) ∧ Below w.heap.size w w' := by
  go_enter Tryd.func11, Tryd.ntmps11
  go_wp2_with fail
  refine (tok_any x hx0 hx1 _ hT hP).mono ?_
  rintro e w' ⟨⟨s, rfl, hs⟩, hb⟩
  go_wp2_with fail
  go_ret
  exact ⟨⟨s, rfl, hs⟩, hb⟩

set_option maxHeartbeats 1000000 in
theorem sUnTest_any (x : Int) (hx0 : 0 ≤ x) (hx1 : x ≤ 4294967295) (w : World) (hT : Lib.TabIs Tryd.prog w "mvdan.cc/sh/v3/syntax._token_index" .u16 idxL) (hP : Lib.TabIs Tryd.prog w "internal/strconv.uint64pow10" .u64 Lib.pow10Tab) :
    Calls Tryd.prog 13 #[.int .u32 x] w fun e w' => (∃ s, e = .returned (.string s) ∧ TokStr x s) ∧ Below w.heap.size w w' := by
  go_enter Tryd.func13, Tryd.ntmps13
  go_wp2_with fail
  refine (tok_any x hx0 hx1 _ hT hP).mono ?_
  rintro e w' ⟨⟨s, rfl, hs⟩, hb⟩
  go_wp2_with fail
  go_ret
  exact ⟨⟨s, rfl, hs⟩, hb⟩
end Go.Proofs.YtpecmkpgbckpcaaDoor
