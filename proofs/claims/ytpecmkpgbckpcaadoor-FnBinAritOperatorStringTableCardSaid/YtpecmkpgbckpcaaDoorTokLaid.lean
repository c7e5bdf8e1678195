/- From the row's condition on the listed variables to the two tables' facts. Conditions: none. -/
import Derived.Test.YtpecmkpgbckpcaaDoorTokTab
import Derived.LaidMore
import Derived.LaidLaws
import Derived.OpenShut
namespace Go.Proofs.YtpecmkpgbckpcaaDoor
open Go.RowKit Go.ChangeShapes Go.WideShapes
set_option linter.unusedVariables false
set_option maxRecDepth 100000 in
theorem tabs_of_laid {W : World} (h : laidMetH Tryd.prog Rows.fnUnAritOperatorStringTableRow.laid W) :
    Lib.TabIs Tryd.prog W "mvdan.cc/sh/v3/syntax._token_index" .u16 idxL ∧ Lib.TabIs Tryd.prog W "internal/strconv.uint64pow10" .u64 Lib.pow10Tab := by
  rw [MakeChecks.laidMetH_plain _ _ _ (by kernel_rfl)] at h
  obtain ⟨ps, ⟨g0, t0, cs0, f0, p0, q0, hg0, ht0, hv0, hd0, ⟨g1, t1, cs1, f1, p1, q1, hg1, ht1, hv1, hd1, ⟨g2, t2, cs2, f2, p2, q2, hg2, ht2, hv2, hd2, ⟨g3, t3, cs3, f3, p3, q3, hg3, ht3, hv3, hd3, _, _⟩, _⟩, _⟩, _⟩, _, _⟩ := h
  obtain rfl : g3 = 0 := Option.some.inj (hg3.symm.trans (by kernel_rfl))
  obtain rfl : t3 = 40 := Option.some.inj (ht3.symm.trans (by kernel_rfl))
  refine ⟨?_, ?_⟩
  · unfold Lib.TabIs
    rw [hv3, ← Lib.cells_of_tab (k := .u16) (zs := idxL) (e := 39) (n := 145) Tryd.underlying40 Tryd.underlying39 (by kernel_rfl) (by kernel_rfl) hd3]
  · obtain rfl : g2 = 1 := Option.some.inj (hg2.symm.trans (by kernel_rfl))
    obtain rfl : t2 = 51 := Option.some.inj (ht2.symm.trans (by kernel_rfl))
    unfold Lib.TabIs
    rw [hv2, ← Lib.cells_of_tab (k := .u64) (zs := Lib.pow10Tab) (e := 43) (n := 20) Tryd.underlying51 Tryd.underlying43 (by kernel_rfl) (by kernel_rfl) hd2]
end Go.Proofs.YtpecmkpgbckpcaaDoor
