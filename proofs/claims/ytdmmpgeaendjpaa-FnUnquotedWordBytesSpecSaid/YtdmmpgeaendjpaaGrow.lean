/- A row of bytes that an append may move: the row that it came in, or a new one. Conditions: sizes far below the reach. -/
import Derived.Test.YtdmmpgeaendjpaaOwn
import Derived.Test.YtdmmpgeaendjpaaNp
import Derived.ArgAppend
import Derived.Laws.AppendOwn
namespace Go.Proofs.Ytdmmpgeaendjpaa
open Go.RowKit
set_option linter.unusedVariables false

theorem grownBelow {w w' : World} (h : Below w.heap.size w w') (row : Option Nat) : w.grownBy w' row := ⟨h.1, h.2, h.3, h.4, fun k hk _ => h.5 k hk⟩
/-- bytes as cells -/
def bc (xs : List Int) : List Value := xs.map (Value.int .u8)
theorem bc_len (xs : List Int) : (bc xs).length = xs.length := by simp [bc]
theorem bc_app (xs ys : List Int) : bc (xs ++ ys) = bc xs ++ bc ys := by simp [bc]
/-- w, grown out of w0: v holds the cells xs; its row is the row g0 or a new one, and nothing else that was there has turned -/
def Grow (E : TypeId) (w0 : World) (g0 : Option Nat) (w : World) (v : Value) (n : Nat) (xs : List Value) : Prop :=
  w0.grownBy w g0 ∧ ((v.ownBlock = g0 ∧ w.ownsRow 0 E 1 v n xs) ∨ w.ownsRow w0.heap.size E 1 v n xs)
theorem Grow.start {E : TypeId} {w : World} {v : Value} {n : Nat} {xs : List Value} (h : w.ownsRow 0 E 1 v n xs) : Grow E w v.ownBlock w v n xs := ⟨World.grownBy.refl _ _, .inl ⟨rfl, h⟩⟩
theorem Grow.size {E : TypeId} {w0 w : World} {g0 : Option Nat} {v : Value} {n : Nat} {xs : List Value} (h : Grow E w0 g0 w v n xs) : w0.heap.size ≤ w.heap.size := h.1.size
theorem ownsRow_low {w : World} {b c : Nat} {E : TypeId} {s : Nat} {v : Value} {n : Nat} {xs : List Value} (h : w.ownsRow b E s v n xs) (hc : c ≤ b) : w.ownsRow c E s v n xs := by
  obtain ⟨h1, h2⟩ := h
  refine ⟨h1, ?_⟩
  rcases h2 with h2 | ⟨g, cap, cur, e, hb, r⟩
  · exact .inl h2
  · exact .inr ⟨g, cap, cur, e, by omega, r⟩
theorem Grow.owns {E : TypeId} {w0 w : World} {g0 : Option Nat} {v : Value} {n : Nat} {xs : List Value} (h : Grow E w0 g0 w v n xs) : w.ownsRow 0 E 1 v n xs := by
  rcases h.2 with ⟨_, h⟩ | h
  · exact h
  · exact ownsRow_low h (Nat.zero_le _)
theorem own_in {w : World} {b : Nat} {E : TypeId} {s : Nat} {v : Value} {n : Nat} {xs : List Value} (h : w.ownsRow b E s v n xs) : v.ownBlock = none ∨ ∃ g, v.ownBlock = some g ∧ b ≤ g ∧ g < w.heap.size := by
  rcases h.2 with ⟨rfl, _⟩ | ⟨g, cap, cur, rfl, hb, hg, _⟩
  · exact .inl rfl
  · exact .inr ⟨g, rfl, hb, (Array.getElem?_eq_some_iff.1 hg).1⟩
/-- one step: what the world makes beside the row -/
theorem Grow.alloc {E : TypeId} {w0 w : World} {g0 : Option Nat} {v : Value} {n : Nat} {xs : List Value} (h : Grow E w0 g0 w v n xs) (o : Obj) : Grow E w0 g0 (w.alloc o) v n xs := by
  refine ⟨galloc h.1 o, ?_⟩
  rcases h.2 with ⟨e, h⟩ | h
  · exact .inl ⟨e, h.alloc _⟩
  · exact .inr (h.alloc _)
theorem Grow.below {E : TypeId} {w0 w w' : World} {g0 : Option Nat} {v : Value} {n : Nat} {xs : List Value} (h : Grow E w0 g0 w v n xs) (hb : Below w.heap.size w w') : Grow E w0 g0 w' v n xs := by
  have hz := h.1.size
  refine ⟨⟨hb.1.trans h.1.os, hb.2.trans h.1.tape, hb.3.trans h.1.output, Nat.le_trans hz hb.size, fun k hk hne => (hb.5 k (by omega)).trans (h.1.block k hk hne)⟩, ?_⟩
  rcases h.2 with ⟨e, h⟩ | h
  · exact .inl ⟨e, h.kept (grownBelow hb none) (by cases v.ownBlock <;> simp)⟩
  · exact .inr (h.kept (grownBelow hb none) (by cases v.ownBlock <;> simp))
/-- two stretches, one behind the other -/
theorem Grow.trans {E : TypeId} {w0 w1 w2 : World} {g0 : Option Nat} {v1 v2 : Value} {n1 n2 : Nat} {x1 x2 : List Value} (h : Grow E w0 g0 w1 v1 n1 x1) (k : Grow E w1 v1.ownBlock w2 v2 n2 x2) : Grow E w0 g0 w2 v2 n2 x2 := by
  have hz := h.1.size
  have hg : w0.grownBy w2 g0 := by
    rcases h.2 with ⟨e, _⟩ | ho
    · rw [e] at k; exact gtrans h.1 k.1
    · refine ⟨k.1.os.trans h.1.os, k.1.tape.trans h.1.tape, k.1.output.trans h.1.output, Nat.le_trans hz k.1.size, fun b hb hne => ?_⟩
      refine (k.1.block b (by omega) ?_).trans (h.1.block b hb hne)
      intro e
      rcases own_in ho with h | ⟨g, h, hl, _⟩
      · rw [h] at e; cases e
      · rw [h] at e; cases e; omega
  refine ⟨hg, ?_⟩
  rcases k.2 with ⟨e, hk⟩ | hk
  · rcases h.2 with ⟨e1, _⟩ | ho
    · exact .inl ⟨e.trans e1, hk⟩
    · refine .inr ⟨hk.1, ?_⟩
      rcases hk.2 with hk | ⟨g, cap, cur, hv, _, r⟩
      · exact .inl hk
      · refine .inr ⟨g, cap, cur, hv, ?_, r⟩
        rcases own_in ho with h | ⟨g1, h, hl, _⟩
        · rw [h, hv] at e; cases e
        · rw [h, hv] at e; cases e; exact hl
  · exact .inr (ownsRow_low hk hz)
section
variable {P : Program} (w : World)
theorem run_append_grow_any (t ty e : TypeId) (i : TypeInfo) (ht : P.underlying t = some (.slice e)) (hi : P.info? e = some i) (hz : i.zero = some (.int .u8 0)) (hsize : i.size = 1) (hby : i.bytes = 1)
    (v : Value) (n : Nat) (xs : List Value) (hown : w.ownsRow 0 e 1 v n xs)
    (a : Addr) (m c : Nat) (news : List Value) (hl : news.length = m * 1) (hnews : ∀ j u, news[j]? = some u → w.cell? (a.add j) = some u) (h1 : ∀ u ∈ news, u.oneCell' = true) (hb : n + m ≤ 1073741824) :
    ∃ v' w', (Builtin.append_ #[t, t] ty #[v, .slice (some a) m c]).run P w = .ok v' w' ∧ Grow e w v.ownBlock w' v' (n + m) (xs ++ news) := by
  have hm : n + m ≤ maxLen := by unfold maxLen; omega
  have hm2 : (n + m) * 1 ≤ 140737488355328 := by omega
  rcases hown.2 with ⟨rfl, rfl⟩ | ⟨g, cap, cur, rfl, hbg, hg, hnc, hcm, hcs, htake⟩
  · have hx : xs = [] := List.eq_nil_of_length_eq_zero (by simpa using hown.1)
    subst hx
    obtain ⟨v', w', hr, h2, h3, _⟩ := run_append_own w w.heap.size t ty e i (.int .u8 0) 1 1 ht hi hz hsize hby rfl (by decide) (.slice none 0 0) 0 [] (World.ownsRow_nil w _ e 1) a m c news hl hnews h1 hm hm2 (Nat.le_refl _)
    exact ⟨v', w', hr, h3, .inr h2⟩
  · by_cases hroom : n + m ≤ cap
    · obtain ⟨w', hr, h2, h3⟩ := run_append_fits (P := P) w 0 t ty e i 1 ht hi hsize g n cap xs hown a m c news hl hnews h1 hroom
      exact ⟨_, w', hr, h3, .inl ⟨rfl, h2⟩⟩
    · have holds : ∀ j u, xs[j]? = some u → w.cell? ((⟨g, 0, none⟩ : Addr).add j) = some u := hown.cells (g := g) rfl
      obtain ⟨v', w', hr, h2, h3⟩ := run_append_arg_grows (P := P) w t ty e i (.int .u8 0) 1 1 ht hi hz hsize hby rfl (by decide) ⟨g, 0, none⟩ n cap xs hown.1 holds a m c news hl hnews (by omega) hm hm2
      exact ⟨v', w', hr, ⟨h3.os, h3.tape, h3.output, h3.size, fun k hk _ => h3.block k hk (by simp)⟩, .inr h2⟩
theorem wpList_append_grow {ops : Array Oper} {rest : List Oper} {o : Oper} {a : Act} {Q : Exit → Act → World → Prop} (hgd : o.guard = none) (s x : Operand) (t : TypeId)
    (ho : o.op = .call { callee := .builtin .append, args := #[s, x], argTypes := #[t, t] })
    (e : TypeId) (i : TypeInfo) (ht : P.underlying t = some (.slice e)) (hi : P.info? e = some i) (hz : i.zero = some (.int .u8 0)) (hsize : i.size = 1) (hby : i.bytes = 1)
    (w0 : World) (g0 : Option Nat) (v : Value) (n : Nat) (xs : List Value) (hs : a.eval s = v) (hG : Grow e w0 g0 w v n xs)
    (ad : Addr) (m c : Nat) (news : List Value) (hx : a.eval x = .slice (some ad) m c) (hl : news.length = m * 1) (hnews : ∀ j u, news[j]? = some u → w.cell? (ad.add j) = some u) (h1 : ∀ u ∈ news, u.oneCell' = true) (hb : n + m ≤ 1073741824)
    (h : ∀ v' w', Grow e w0 g0 w' v' (n + m) (xs ++ news) → wpList P ops Q rest (a.put o.dst v') w') : wpList P ops Q (o :: rest) a w := by
  refine wpList_plain hgd fun K hK => ?_
  obtain ⟨v', w', hr, h2⟩ := run_append_grow_any (P := P) w t o.type e i ht hi hz hsize hby v n xs hG.owns ad m c news hl hnews h1 hb
  unfold Oper.wp execOp
  simp only [ho, resolve, invoke, builtin, Sem.run_bind, Sem.run_pure, Result.andThen_ok, List.map_toArray, List.map_cons, List.map_nil, hs, hx, hr]
  exact hK _ _ (h v' w' (hG.trans h2))
end
end Go.Proofs.Ytdmmpgeaendjpaa
