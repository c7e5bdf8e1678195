/- Parameter expansions: plain, with a length, with an index. Conditions: the cells. -/
import Derived.Test.YtgeaokgcmhkoaaaPeDef
namespace Go.Proofs.Ytgeaokgcmhkoaaa
open Go.RowKit
set_option linter.unusedVariables false
set_option linter.unusedSimpArgs false

set_option maxHeartbeats 1000000 in
theorem simple_0 (b l a : Nat) (w : World) (c13 : w.cell? ⟨b, 13, none⟩ = some (.pointer (some ⟨l, 0, none⟩))) (c5 : w.cell? ⟨b, 5, none⟩ = some (.pointer none)) (c6 : w.cell? ⟨b, 6, none⟩ = some (.bool false)) (c7 : w.cell? ⟨b, 7, none⟩ = some (.bool false)) (c8 : w.cell? ⟨b, 8, none⟩ = some (.bool false)) (c9 : w.cell? ⟨b, 9, none⟩ = some (.bool false)) (c10 : w.cell? ⟨b, 10, none⟩ = some (.int .u8 0)) (c11 : w.cell? ⟨b, 11, none⟩ = some (.int .u8 0)) (c12 : w.cell? ⟨b, 12, none⟩ = some (.int .u8 0)) (c14 : w.cell? ⟨b, 14, none⟩ = some (.nilIface)) (c15 : w.cell? ⟨b, 15, none⟩ = some (.nilIface)) (c16 : w.cell? ⟨b, 16, none⟩ = some (.slice none 0 0)) (c17 : w.cell? ⟨b, 17, none⟩ = some (.pointer none)) (c18 : w.cell? ⟨b, 18, none⟩ = some (.pointer none)) (c19 : w.cell? ⟨b, 19, none⟩ = some (.int .u32 0)) (c20 : w.cell? ⟨b, 20, none⟩ = some (.pointer none)) : SimpleIs w b true := by
  intro W hW
  have c13 := cell_below hW c13
  have c5 := cell_below hW c5
  have c6 := cell_below hW c6
  have c7 := cell_below hW c7
  have c8 := cell_below hW c8
  have c9 := cell_below hW c9
  have c10 := cell_below hW c10
  have c11 := cell_below hW c11
  have c12 := cell_below hW c12
  have c14 := cell_below hW c14
  have c15 := cell_below hW c15
  have c16 := cell_below hW c16
  have c17 := cell_below hW c17
  have c18 := cell_below hW c18
  have c19 := cell_below hW c19
  have c20 := cell_below hW c20
  have z := World.block_lt_of_cell? _ _ c13
  simp only at z
  clear hW
  go_enter Try.func28, Try.ntmps28
  go_wp2_with fail
  go_ret
  exact ⟨rfl, by go_grown⟩
set_option maxHeartbeats 1000000 in
theorem simple_2 (b l a : Nat) (w : World) (c13 : w.cell? ⟨b, 13, none⟩ = some (.pointer (some ⟨l, 0, none⟩))) (c5 : w.cell? ⟨b, 5, none⟩ = some (.pointer none)) (c6 : w.cell? ⟨b, 6, none⟩ = some (.bool false)) (c7 : w.cell? ⟨b, 7, none⟩ = some (.bool true)) (c8 : w.cell? ⟨b, 8, none⟩ = some (.bool false)) (c9 : w.cell? ⟨b, 9, none⟩ = some (.bool false)) (c10 : w.cell? ⟨b, 10, none⟩ = some (.int .u8 0)) (c11 : w.cell? ⟨b, 11, none⟩ = some (.int .u8 0)) (c12 : w.cell? ⟨b, 12, none⟩ = some (.int .u8 0)) (c14 : w.cell? ⟨b, 14, none⟩ = some (.nilIface)) (c15 : w.cell? ⟨b, 15, none⟩ = some (.nilIface)) (c16 : w.cell? ⟨b, 16, none⟩ = some (.slice none 0 0)) (c17 : w.cell? ⟨b, 17, none⟩ = some (.pointer none)) (c18 : w.cell? ⟨b, 18, none⟩ = some (.pointer none)) (c19 : w.cell? ⟨b, 19, none⟩ = some (.int .u32 0)) (c20 : w.cell? ⟨b, 20, none⟩ = some (.pointer none)) : SimpleIs w b false := by
  intro W hW
  have c13 := cell_below hW c13
  have c5 := cell_below hW c5
  have c6 := cell_below hW c6
  have c7 := cell_below hW c7
  have c8 := cell_below hW c8
  have c9 := cell_below hW c9
  have c10 := cell_below hW c10
  have c11 := cell_below hW c11
  have c12 := cell_below hW c12
  have c14 := cell_below hW c14
  have c15 := cell_below hW c15
  have c16 := cell_below hW c16
  have c17 := cell_below hW c17
  have c18 := cell_below hW c18
  have c19 := cell_below hW c19
  have c20 := cell_below hW c20
  have z := World.block_lt_of_cell? _ _ c13
  simp only at z
  clear hW
  go_enter Try.func28, Try.ntmps28
  go_wp2_with fail
  go_ret
  exact ⟨rfl, by go_grown⟩
set_option maxHeartbeats 1000000 in
theorem simple_9 (b l a : Nat) (w : World) (c13 : w.cell? ⟨b, 13, none⟩ = some (.pointer (some ⟨l, 0, none⟩))) (c5 : w.cell? ⟨b, 5, none⟩ = some (.pointer none)) (c6 : w.cell? ⟨b, 6, none⟩ = some (.bool false)) (c7 : w.cell? ⟨b, 7, none⟩ = some (.bool false)) (c8 : w.cell? ⟨b, 8, none⟩ = some (.bool false)) (c9 : w.cell? ⟨b, 9, none⟩ = some (.bool false)) (c10 : w.cell? ⟨b, 10, none⟩ = some (.int .u8 0)) (c11 : w.cell? ⟨b, 11, none⟩ = some (.int .u8 0)) (c12 : w.cell? ⟨b, 12, none⟩ = some (.int .u8 0)) (c14 : w.cell? ⟨b, 14, none⟩ = some (.nilIface)) (c15 : w.cell? ⟨b, 15, none⟩ = some (.iface 42 (.pointer (some ⟨a, 0, none⟩)))) (c16 : w.cell? ⟨b, 16, none⟩ = some (.slice none 0 0)) (c17 : w.cell? ⟨b, 17, none⟩ = some (.pointer none)) (c18 : w.cell? ⟨b, 18, none⟩ = some (.pointer none)) (c19 : w.cell? ⟨b, 19, none⟩ = some (.int .u32 0)) (c20 : w.cell? ⟨b, 20, none⟩ = some (.pointer none)) : SimpleIs w b false := by
  intro W hW
  have c13 := cell_below hW c13
  have c5 := cell_below hW c5
  have c6 := cell_below hW c6
  have c7 := cell_below hW c7
  have c8 := cell_below hW c8
  have c9 := cell_below hW c9
  have c10 := cell_below hW c10
  have c11 := cell_below hW c11
  have c12 := cell_below hW c12
  have c14 := cell_below hW c14
  have c15 := cell_below hW c15
  have c16 := cell_below hW c16
  have c17 := cell_below hW c17
  have c18 := cell_below hW c18
  have c19 := cell_below hW c19
  have c20 := cell_below hW c20
  have z := World.block_lt_of_cell? _ _ c13
  simp only at z
  clear hW
  go_enter Try.func28, Try.ntmps28
  go_wp2_with fail
  go_ret
  exact ⟨rfl, by go_grown⟩
end Go.Proofs.Ytgeaokgcmhkoaaa
