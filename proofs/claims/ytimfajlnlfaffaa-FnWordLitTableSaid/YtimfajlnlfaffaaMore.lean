/- Small words for walks that build lists: append within the capacity as a step of a drawn region; frames; position methods on packed words. Conditions: none. -/
import Derived.Test.YtimfajlnlfaffaaOwn
import Derived.Test.YtimfajlnlfaffaaEnds
import Derived.Deep.RegionHeld3
import Derived.Deep.LoopGhost
namespace Go.Proofs.Ytimfajlnlfaffaa
open Go.RowKit
set_option linter.unusedVariables false

theorem step_append_fits {P : Program} {ops : Array Oper} {o : Oper} {a : Act} {w : World} {K : Act → World → Prop} {Q : Exit → Act → World → Prop} {E : Prop}
    (hgd : o.guard = none) (s x : Operand) (t : TypeId) (hop : o.op = Op.call { callee := Callee.builtin Builtin.append, args := #[s, x], argTypes := #[t, t] })
    (base : Nat) (e : TypeId) (i : TypeInfo) (size : Nat) (h1 : P.underlying t = some (.slice e)) (h2 : P.info? e = some i) (h4 : i.size = size)
    (g k cap : Nat) (xs : List Value) (hs : a.eval s = .slice (some ⟨g, 0, none⟩) k cap) (hown : w.ownsRow base e size (.slice (some ⟨g, 0, none⟩) k cap) k xs) (ad : Addr) (m c : Nat) (news : List Value) (hx : a.eval x = .slice (some ad) m c) (hn : news.length = m * size)
    (hc : ∀ j u, news[j]? = some u → w.cell? (ad.add j) = some u) (h1c : ∀ u ∈ news, u.oneCell' = true) (b1 : k + m ≤ cap)
    (hK : ∀ w', w'.ownsRow base e size (.slice (some ⟨g, 0, none⟩) (k + m) cap) (k + m) (xs ++ news) → w.grownBy w' (some g) → K (a.put o.dst (.slice (some ⟨g, 0, none⟩) (k + m) cap)) w') :
    if Region.wanted o (yielded ops a.tmps) = true then Oper.wp P o a w K Q else E := by
  have hw : Region.wanted o (yielded ops a.tmps) = true := by simp [Region.wanted, hgd]
  rw [if_pos hw]
  obtain ⟨w', hrun, r1, r2⟩ := run_append_fits (P := P) w base t o.type e i size h1 h2 h4 g k cap xs hown ad m c news hn hc h1c b1
  unfold Oper.wp
  simp [execOp, hop, resolve, invoke, builtin, hs, hx, hrun, Result.andThen]
  exact hK w' r1 r2
theorem grown_of {w w' : World} (h : Below w.heap.size w w') (row : Option Nat) : w.grownBy w' row := ⟨h.1, h.2, h.3, h.4, fun k hk _ => h.5 k hk⟩
theorem grown_trans {a b c : World} {row : Option Nat} (h : a.grownBy b row) (k : b.grownBy c row) : a.grownBy c row :=
  ⟨k.os.trans h.os, k.tape.trans h.tape, k.output.trans h.output, Nat.le_trans h.size k.size, fun i hi hn => (k.block i (Nat.lt_of_lt_of_le hi h.size) hn).trans (h.block i hi hn)⟩
theorem one_new {w : World} {v : Value} {t : TypeId} : ∀ j u, [v][j]? = some u → (w.alloc (.cells #[v] t)).cell? ((⟨w.heap.size, 0, none⟩ : Addr).add j) = some u := by
  intro j u h
  cases j with
  | zero => simp at h; subst h; simp [Addr.add, go_sem]
  | succ j => simp at h
theorem cell_later {W w : World} {a : Addr} {v : Value} (hb : Below W.heap.size W w) (h : W.cell? a = some v) : w.cell? a = some v := by
  rw [hb.cell (World.block_lt_of_cell? W a h)]; exact h
/-- the world of a call under a name of its own, with what is known of it -/
theorem calls_gen {P : Program} {f : FuncId} {args : Array Value} {Q : Ending → World → Prop} {W : World} (R : World → Prop) (h : R W) (k : ∀ W', R W' → Calls P f args W' Q) : Calls P f args W Q := k W h
/-- some Bool comes back -/
def SomeBool (w : World) (e : Ending) (w' : World) : Prop := ∃ b : Bool, e = .returned (.bool b) ∧ Below w.heap.size w w'
theorem offset_is (o lc : Int) (w : World) (h : 0 ≤ o ∧ o ≤ 4294967284) : Calls Try.prog 40 #[.agg #[.int .u32 o, .int .u32 lc]] w fun e w' => e = .returned (.int .u64 o) ∧ Below w.heap.size w w' :=
  (offset_any o lc w (by omega)).mono fun _ _ ⟨he, hb⟩ => ⟨by rw [he]; unfold offOf; rw [if_neg (by omega)], hb⟩
theorem line_is (o l c : Int) (w : World) (h : 0 ≤ l ∧ l ≤ 262143) (hc : 0 ≤ c ∧ c ≤ 16383) : Calls Try.prog 41 #[.agg #[.int .u32 o, .int .u32 (l * 16384 + c)]] w fun e w' => e = .returned (.int .u64 l) ∧ Below w.heap.size w w' :=
  (line_any o (l * 16384 + c) w (by omega)).mono fun _ _ ⟨he, hb⟩ => ⟨by rw [he]; exact ret_int (by unfold lineOf; omega), hb⟩
theorem col_is (o l c : Int) (w : World) (h : 0 ≤ l ∧ l ≤ 262143) (hc : 0 ≤ c ∧ c ≤ 16383) : Calls Try.prog 43 #[.agg #[.int .u32 o, .int .u32 (l * 16384 + c)]] w fun e w' => e = .returned (.int .u64 c) ∧ Below w.heap.size w w' :=
  (col_any o (l * 16384 + c) w (by omega)).mono fun _ _ ⟨he, hb⟩ => ⟨by rw [he]; exact ret_int (by unfold colOf; omega), hb⟩
theorem after_is (o lc o2 lc2 : Int) (b : Bool) (w : World) (ho : 0 ≤ o ∧ o ≤ 4294967284) (hl : 1 ≤ lc ∧ lc ≤ 4294967295) (h : b = decide (o2 < o)) : Calls Try.prog 42 #[.agg #[.int .u32 o, .int .u32 lc], .agg #[.int .u32 o2, .int .u32 lc2]] w fun e w' => e = .returned (.bool b) ∧ Below w.heap.size w w' :=
  (after_any o lc o2 lc2 w (by omega) (by omega)).mono fun _ _ ⟨he, hb⟩ => ⟨by
    have hv : validB o lc = true := by simp [validB]; omega
    rw [he, hv, h]; rfl, hb⟩
theorem addO_to (o lc n r : Int) (h1 : 0 ≤ o ∧ o ≤ 4294967284) (h2 : 1 ≤ lc) (hr : r = o + n) (h3 : 0 ≤ r ∧ r ≤ 4294967284) : addO o lc n = r :=
  (addO_is h1.2 (by simp; omega) (.inr (.inr ⟨by omega, by omega, hr⟩))).symm
theorem addLc_to (o l c n r : Int) (h1 : 0 ≤ o ∧ o ≤ 4294967284) (hl : 1 ≤ l) (h2 : 1 ≤ c ∧ c ≤ 16383) (hr : r = c + n) (h3 : 1 ≤ r ∧ r ≤ 16383) : addLc o (l * 16384 + c) n = l * 16384 + r :=
  (addLc_is h1.2 (by simp; omega) (.inr (.inr ⟨by omega, by omega, by omega, by omega⟩))).symm
end Go.Proofs.Ytimfajlnlfaffaa
