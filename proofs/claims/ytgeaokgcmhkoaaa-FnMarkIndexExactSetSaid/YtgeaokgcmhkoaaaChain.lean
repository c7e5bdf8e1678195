/- Chains of parentheses in memory, and what the methods that strip them answer. Conditions: the cells. -/
import Derived.Test.YtgeaokgcmhkoaaaAsserts
import Derived.Test.YtgeaokgcmhkoaaaKit
import Derived.Handy
import Derived.Outline
import Derived.OwnWalk
import Derived.Deep.QuietTactic
import Derived.BigQuiet
import Derived.Deep.LoopGhost
namespace Go.Proofs.Ytgeaokgcmhkoaaa
open Go.RowKit
set_option linter.unusedVariables false

theorem cell_below {W w : World} {a : Addr} {v : Value} (hb : Below W.heap.size W w) (h : W.cell? a = some v) : w.cell? a = some v := by
  rw [hb.cell (World.block_lt_of_cell? W a h)]; exact h
theorem cell_under {B : Nat} {W w : World} {a : Addr} {v : Value} (hb : Below B W w) (ha : a.block < B) (h : W.cell? a = some v) : w.cell? a = some v := by
  rw [hb.cell ha]; exact h
theorem drewN_of {B : Nat} {w W : World} {n : Nat} (h : Below B w W) : Below B w (W.drewN n) := h.trans ⟨rfl, rfl, rfl, Nat.le_refl _, fun _ _ => rfl⟩
theorem grown_of {w w' : World} (h : Below w.heap.size w w') (row : Option Nat) : w.grownBy w' row := ⟨h.1, h.2, h.3, h.4, fun k hk _ => h.5 k hk⟩

/-- k parentheses (dynamic type T) around v0; their blocks lie in lo .. hi - 1 -/
def Chain (T : TypeId) (W : World) (lo hi : Nat) (v0 : Value) : Nat → Value → Prop
  | 0, x => x = v0
  | k + 1, x => ∃ b y, x = .iface T (.pointer (some ⟨b, 0, none⟩)) ∧ lo ≤ b ∧ b < hi ∧ W.cell? ⟨b, 4, none⟩ = some y ∧ Chain T W lo hi v0 k y
theorem Chain.keep {T : TypeId} {W w : World} {lo hi lo' hi' : Nat} {v0 : Value} (hc : ∀ b v, lo ≤ b → b < hi → W.cell? ⟨b, 4, none⟩ = some v → w.cell? ⟨b, 4, none⟩ = some v) (h1 : lo' ≤ lo) (h2 : hi ≤ hi') :
    ∀ (k : Nat) (x : Value), Chain T W lo hi v0 k x → Chain T w lo' hi' v0 k x
  | 0, _, h => h
  | k + 1, _, ⟨b, y, hx, hl, hh, hcell, hr⟩ => ⟨b, y, hx, by omega, by omega, hc b y hl hh hcell, Chain.keep hc h1 h2 k y hr⟩
theorem Chain.below {T : TypeId} {W w : World} {lo hi : Nat} {v0 : Value} {k : Nat} {x : Value} (h : Chain T W lo hi v0 k x) (hb : Below W.heap.size W w) : Chain T w lo hi v0 k x :=
  Chain.keep (fun _ _ _ _ h => cell_below hb h) (Nat.le_refl _) (Nat.le_refl _) k x h
theorem Chain.grown {T : TypeId} {W w : World} {lo hi g : Nat} {v0 : Value} {k : Nat} {x : Value} (h : Chain T W lo hi v0 k x) (hg : W.grownBy w (some g)) (hlo : g < lo) : Chain T w lo hi v0 k x :=
  Chain.keep (fun b _ hb _ h => hg.cell h (fun e => by injection e with e; simp at e; omega)) (Nat.le_refl _) (Nat.le_refl _) k x h
theorem Chain.wide {T : TypeId} {W : World} {lo hi hi' : Nat} {v0 : Value} {k : Nat} {x : Value} (h : Chain T W lo hi v0 k x) (hh : hi ≤ hi') : Chain T W lo hi' v0 k x :=
  Chain.keep (fun _ _ _ _ h => h) (Nat.le_refl _) hh k x h


set_option maxRecDepth 100000 in
set_option maxHeartbeats 1000000 in
/-- the method: it walks down to the first node that is no parenthesis; it writes its own flag alone -/
theorem rpArithm_any (sb lo : Nat) (v0 x : Value) (k : Nat) (m0 : Bool) (w : World) (hc0 : w.cell? ⟨sb, 0, none⟩ = some (.bool m0)) (hf0 : w.frozen? ⟨sb, 0, none⟩ = false) (hch : Chain 48 w lo sb v0 k x)
    (hv : ∀ W : World, (Instr.typeAssert v0 34 48 true).run Try.prog W = .ok (.tuple #[.pointer none, .bool false]) W) :
    Calls Try.prog 20 #[.pointer (some ⟨sb, 0, none⟩), x] w fun e w' => e = .returned v0 ∧ Below sb w w' ∧ ∃ m : Bool, w'.cell? ⟨sb, 0, none⟩ = some (.bool m) ∧ (m0 = false → m = decide (0 < k)) := by
  have hy := as_ArithmExpr_ParenArithm_ParenArithm
  have hsz := World.block_lt_of_cell? w _ hc0
  simp only at hsz
  have H := Lib.hid (show Chain 48 w lo sb v0 k x ∧ Below sb w w ∧ ∃ m : Bool, w.cell? ⟨sb, 0, none⟩ = some (.bool m) ∧ w.frozen? ⟨sb, 0, none⟩ = false ∧ k ≤ k ∧ (m0 = false → m = decide (k < k)) from ⟨hch, Below.refl _ _, m0, hc0, hf0, Nat.le_refl _, fun h => by rw [h]; simp⟩)
  clear hc0 hf0 hch
  go_enter Try.func20, Try.ntmps20
  go_wp2_with fail
  go_loopg [1] k (fun j xv wr => Chain 48 wr lo sb v0 j xv ∧ Below sb w wr ∧ ∃ m : Bool, wr.cell? ⟨sb, 0, none⟩ = some (.bool m) ∧ wr.frozen? ⟨sb, 0, none⟩ = false ∧ j ≤ k ∧ (m0 = false → m = decide (j < k)))
  case atStart => exact H.out
  case round =>
    clear H
    obtain ⟨hch, hB, m, hc0, hf0, hjk, hm⟩ := hrel
    have HM := Lib.hid hm
    clear hm
    have hsz : sb < wr.heap.size := by have := World.block_lt_of_cell? wr _ hc0; simpa using this
    cases gk with
    | zero =>
      obtain rfl : _ = v0 := hch
      go_wp2
      go_ret
      exact ⟨rfl, hB, m, hc0, HM.out⟩
    | succ j =>
      obtain ⟨b, y, rfl, hl, hh, hcell, hr⟩ := hch
      have HR := Lib.hid hr
      clear hr
      have hbs : b ≠ sb := by omega
      have hbz : b < wr.heap.size := by omega
      go_wp2
      go_roundg j
      case rel =>
        refine ⟨Chain.keep (fun b v hl hh h => ?_) (Nat.le_refl _) (Nat.le_refl _) j y HR.out, hB.setCell (Nat.le_refl _) _, true, by simp [go_sem, hc0], by simp [go_sem, hf0], by omega, fun _ => by simp; omega⟩
        rw [World.cell?_setCell_other _ _ _ _ (fun e => by injection e with e; omega)]
        exact h
      case measure => omega

set_option maxRecDepth 100000 in
set_option maxHeartbeats 1000000 in
/-- the method: it walks down to the first node that is no parenthesis; it writes its own flag alone -/
theorem rpTest_any (sb lo : Nat) (v0 x : Value) (k : Nat) (m0 : Bool) (w : World) (hc0 : w.cell? ⟨sb, 0, none⟩ = some (.bool m0)) (hf0 : w.frozen? ⟨sb, 0, none⟩ = false) (hch : Chain 121 w lo sb v0 k x)
    (hv : ∀ W : World, (Instr.typeAssert v0 117 121 true).run Try.prog W = .ok (.tuple #[.pointer none, .bool false]) W) :
    Calls Try.prog 24 #[.pointer (some ⟨sb, 0, none⟩), x] w fun e w' => e = .returned v0 ∧ Below sb w w' ∧ ∃ m : Bool, w'.cell? ⟨sb, 0, none⟩ = some (.bool m) ∧ (m0 = false → m = decide (0 < k)) := by
  have hy := as_TestExpr_ParenTest_ParenTest
  have hsz := World.block_lt_of_cell? w _ hc0
  simp only at hsz
  have H := Lib.hid (show Chain 121 w lo sb v0 k x ∧ Below sb w w ∧ ∃ m : Bool, w.cell? ⟨sb, 0, none⟩ = some (.bool m) ∧ w.frozen? ⟨sb, 0, none⟩ = false ∧ k ≤ k ∧ (m0 = false → m = decide (k < k)) from ⟨hch, Below.refl _ _, m0, hc0, hf0, Nat.le_refl _, fun h => by rw [h]; simp⟩)
  clear hc0 hf0 hch
  go_enter Try.func24, Try.ntmps24
  go_wp2_with fail
  go_loopg [1] k (fun j xv wr => Chain 121 wr lo sb v0 j xv ∧ Below sb w wr ∧ ∃ m : Bool, wr.cell? ⟨sb, 0, none⟩ = some (.bool m) ∧ wr.frozen? ⟨sb, 0, none⟩ = false ∧ j ≤ k ∧ (m0 = false → m = decide (j < k)))
  case atStart => exact H.out
  case round =>
    clear H
    obtain ⟨hch, hB, m, hc0, hf0, hjk, hm⟩ := hrel
    have HM := Lib.hid hm
    clear hm
    have hsz : sb < wr.heap.size := by have := World.block_lt_of_cell? wr _ hc0; simpa using this
    cases gk with
    | zero =>
      obtain rfl : _ = v0 := hch
      go_wp2
      go_ret
      exact ⟨rfl, hB, m, hc0, HM.out⟩
    | succ j =>
      obtain ⟨b, y, rfl, hl, hh, hcell, hr⟩ := hch
      have HR := Lib.hid hr
      clear hr
      have hbs : b ≠ sb := by omega
      have hbz : b < wr.heap.size := by omega
      go_wp2
      go_roundg j
      case rel =>
        refine ⟨Chain.keep (fun b v hl hh h => ?_) (Nat.le_refl _) (Nat.le_refl _) j y HR.out, hB.setCell (Nat.le_refl _) _, true, by simp [go_sem, hc0], by simp [go_sem, hf0], by omega, fun _ => by simp; omega⟩
        rw [World.cell?_setCell_other _ _ _ _ (fun e => by injection e with e; omega)]
        exact h
      case measure => omega
end Go.Proofs.Ytgeaokgcmhkoaaa
