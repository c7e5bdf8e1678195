/- The contract of the token table's String. Conditions: the table's cells. -/
import Derived.Test.YtpecmkpgbckpcaaDoorRows
import Derived.Test.YtpecmkpgbckpcaaDoorKit
import Derived.OpenShut
import Derived.Handy
import Derived.Outline
import Derived.Deep.QuietTactic
import Derived.BigQuiet
import Derived.Laws.Strings2
namespace Go.Proofs.YtpecmkpgbckpcaaDoor
open Go.RowKit
set_option linter.unusedVariables false

/-- The text in which the table's rows lie, read off the program itself. -/
noncomputable def tokName : ByteArray :=
  match Tryd.f15.body with
  | some (.seq _ (.seq _ (.seq _ (.seq (.region _ ops _) _)))) =>
    match ops[7]? with
    | some i => (match i.op with
      | .slice _ (.const (.string s)) _ _ _ => s
      | _ => ⟨#[]⟩)
    | _ => ⟨#[]⟩
  | _ => ⟨#[]⟩

set_option maxRecDepth 100000 in
theorem tokName_size : tokName.size = 320 := by kernel_rfl

set_option maxHeartbeats 1000000 in
set_option maxRecDepth 100000 in
theorem tok_low (k : Nat) (hk : k < 144) (lo hi : Nat) (w : World) (h0 : w.cell? ⟨0, k, none⟩ = some (.int .u16 lo)) (h1 : w.cell? ⟨0, k + 1, none⟩ = some (.int .u16 hi)) (hl : lo ≤ hi) (hh : hi ≤ 320) :
    Calls Tryd.prog 15 #[.int .u32 k] w fun e w' => e = .returned (.string (tokName.extract lo hi)) ∧ ∃ n, w' = w.drewN n := by
  have q1 : ¬ (k : Int) < 0 := by omega
  have q2 : ¬ 144 ≤ (k : Int) := by omega
  have q3 : (k : Int) < 145 := by omega
  have q4 : (k : Int) + 1 < 145 := by omega
  have q5 : (0 : Int) ≤ (k : Int) := by omega
  have q6 : (0 : Int) ≤ (k : Int) + 1 := by omega
  have v1 := IntWalk.i64_in ((k : Int) + 1) (by omega)
  have v2 : ((k : Int) + 1).toNat = k + 1 := by omega
  go_enter Tryd.func15, Tryd.ntmps15
  go_wp2_with fail
  refine wp_region_quiet_lit (by kernel_rfl) (by kernel_rfl) ?_
  generalize hS : (ByteArray.mk _ : ByteArray) = S
  have hN : tokName = S := by rw [← hS]; kernel_rfl
  have hz : S.size = 320 := by rw [← hN]; exact tokName_size
  have hsl := fun wx => run_slice_string (P := Tryd.prog) wx 9 S .u16 .u16 (lo : Int) (hi : Int) Tryd.underlying9 (by omega) (by omega) (by omega)
  repeat (any_goals (first | go_big_quiet_step (fail) | quiet_step (fail)))
  refine wpQuiet_nil ?_
  intro _ hw'
  obtain ⟨nq, hw''⟩ := hw'
  subst hw''
  go_wp2_with fail
  go_ret
  exact ⟨by rw [hN]; rfl, nq, rfl⟩
end Go.Proofs.YtpecmkpgbckpcaaDoor
