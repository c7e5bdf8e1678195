/- Arithmetic trees in memory, and the builder that makes them: its lists of nodes and of wishes. Conditions: the cells. -/
import Derived.Test.YtgeaokgcmhkoaaaMapKeys
import Derived.Test.YtgeaokgcmhkoaaaOwn
import Derived.Test.YtgeaokgcmhkoaaaChain
import Derived.Laws.AppendOwn
import Derived.Laws.Rows
namespace Go.Proofs.Ytgeaokgcmhkoaaa
open Go.RowKit
set_option linter.unusedVariables false
set_option linter.unusedSimpArgs false

/-- the types of nodes -/
def NodeT (T : TypeId) : Prop := T = 45 ∨ T = 63 ∨ T = 50 ∨ T = 92 ∨ T = 95
theorem NodeT.ne {T : TypeId} (h : NodeT T) : T ≠ 34 ∧ T ≠ 4 := by rcases h with rfl | rfl | rfl | rfl | rfl <;> exact ⟨by decide, by decide⟩
/-- the nodes that were there, from block l on, stand as they stood -/
def NK (l : Nat) (W W' : World) : Prop := ∀ (k : Nat) (C : Array Value) (T : TypeId), l ≤ k → W.heap[k]? = some (.cells C T (0, 0)) → NodeT T → W'.heap[k]? = some (.cells C T (0, 0))
theorem NK.refl (l : Nat) (W : World) : NK l W W := fun _ _ _ _ h _ => h
theorem NK.trans {l : Nat} {a b c : World} (h : NK l a b) (k : NK l b c) : NK l a c := fun i C T hl hi hT => k i C T hl (h i C T hl hi hT) hT
theorem NK.up {l m : Nat} {a b : World} (h : NK l a b) (hm : l ≤ m) : NK m a b := fun i C T hl hi hT => h i C T (by omega) hi hT
theorem NK.below {l : Nat} {W W' : World} (h : Below W.heap.size W W') : NK l W W' := fun k C T _ hk _ => by rw [h.5 k (Array.getElem?_eq_some_iff.1 hk).1]; exact hk
theorem NK.type {l : Nat} {W W' : World} (h : NK l W W') {b : Nat} {T : TypeId} (hl : l ≤ b) (hb : TypeAt W b T) (hT : NodeT T) : TypeAt W' b T := by obtain ⟨C, hC⟩ := hb; exact ⟨C, h b C T hl hC hT⟩
theorem NK.set {l : Nat} {W U : World} {n o : Nat} {v : Value} (h : NK l W U) (hn : W.heap.size ≤ n) : NK l W (U.setCell ⟨n, o, none⟩ v) := fun k C T hl hk hT => by
  have hz := (Array.getElem?_eq_some_iff.1 hk).1
  rw [heap_setCell_other _ _ _ _ (by show k ≠ n; omega)]
  exact h k C T hl hk hT
theorem NK.past {W : World} {n o : Nat} {v : Value} : NK (n + 1) W (W.setCell ⟨n, o, none⟩ v) := fun k C T hl hk _ => by
  rw [heap_setCell_other _ _ _ _ (by show k ≠ n; omega)]
  exact hk
/-- x is a tree of depth below d; its nodes lie in lo .. hi - 1, in the order vs; ws says which are to be kept -/
def Rep (W : World) : Nat → Bool → Nat → Nat → Value → List Value → List Bool → Prop
  | 0, _, _, _, _, _, _ => False
  | d + 1, r, lo, hi, x, vs, ws =>
    (∃ b, x = .iface 42 (.pointer (some ⟨b, 0, none⟩)) ∧ lo ≤ b ∧ b < hi ∧ TypeAt W b 45 ∧ vs = [x] ∧ ws = [false]) ∨
    (∃ b m x1 x2 v1 v2 w1 w2, x = .iface 60 (.pointer (some ⟨b, 0, none⟩)) ∧ lo ≤ b ∧ b < hi ∧ TypeAt W b 63 ∧ W.cell? ⟨b, 3, none⟩ = some x1 ∧ W.cell? ⟨b, 4, none⟩ = some x2 ∧ Rep W d r (b + 1) m x1 v1 w1 ∧ Rep W d r m hi x2 v2 w2 ∧ vs = x :: (v1 ++ v2) ∧ ws = r :: (w1 ++ w2)) ∨
    (∃ b x1 v1 w1, x = .iface 48 (.pointer (some ⟨b, 0, none⟩)) ∧ lo ≤ b ∧ b < hi ∧ TypeAt W b 50 ∧ W.cell? ⟨b, 4, none⟩ = some x1 ∧ Rep W d r (b + 1) hi x1 v1 w1 ∧ vs = x :: v1 ∧ ws = r :: w1) ∨
    (∃ b x1 v1 w1, x = .iface 89 (.pointer (some ⟨b, 0, none⟩)) ∧ lo ≤ b ∧ b < hi ∧ TypeAt W b 92 ∧ W.cell? ⟨b, 4, none⟩ = some x1 ∧ Rep W d r (b + 1) hi x1 v1 w1 ∧ vs = x :: v1 ∧ ws = false :: w1) ∨
    (∃ b x1 v1 w1, x = .iface 93 (.pointer (some ⟨b, 0, none⟩)) ∧ lo ≤ b ∧ b < hi ∧ TypeAt W b 95 ∧ Rep W d false (b + 1) hi x1 v1 w1 ∧ vs = x :: v1 ∧ ws = false :: w1)
theorem cell_of_nk {l : Nat} {W W' : World} (h : NK l W W') {b o : Nat} {T : TypeId} {v : Value} (hl : l ≤ b) (hb : TypeAt W b T) (hT : NodeT T) (hc : W.cell? ⟨b, o, none⟩ = some v) : W'.cell? ⟨b, o, none⟩ = some v := by
  obtain ⟨C, hC⟩ := hb
  rw [World.cell?_of_block (w := W) (by rw [h b C T hl hC hT, hC])]
  exact hc
theorem Rep.lohi {W : World} : ∀ {d : Nat} {r : Bool} {lo hi : Nat} {x : Value} {vs : List Value} {ws : List Bool}, Rep W d r lo hi x vs ws → lo < hi
  | 0, _, _, _, _, _, _, h => h.elim
  | d + 1, r, lo, hi, x, vs, ws, h => by
    rcases h with ⟨b, e, hl, hb, q⟩ | ⟨b, m, x1, x2, v1, v2, w1, w2, e, hl, hb, q⟩ | ⟨b, x1, v1, w1, e, hl, hb, q⟩ | ⟨b, x1, v1, w1, e, hl, hb, q⟩ | ⟨b, x1, v1, w1, e, hl, hb, q⟩ <;> omega
theorem Rep.keep {l : Nat} {W W' : World} (h : NK l W W') : ∀ (d : Nat) (r : Bool) (lo hi hi' : Nat) (x : Value) (vs : List Value) (ws : List Bool), l ≤ lo → hi ≤ hi' → Rep W d r lo hi x vs ws → Rep W' d r lo hi' x vs ws
  | 0, _, _, _, _, _, _, _, _, _, hr => hr
  | d + 1, r, lo, hi, hi', x, vs, ws, hlo, hh, hr => by
    rcases hr with ⟨b, e, hl, hb, ht, ev, ew⟩ | ⟨b, m, x1, x2, v1, v2, w1, w2, e, hl, hb, ht, c1, c2, r1, r2, ev, ew⟩ | ⟨b, x1, v1, w1, e, hl, hb, ht, c1, r1, ev, ew⟩ | ⟨b, x1, v1, w1, e, hl, hb, ht, c1, r1, ev, ew⟩ | ⟨b, x1, v1, w1, e, hl, hb, ht, r1, ev, ew⟩
    · exact .inl ⟨b, e, hl, by omega, h.type (by omega) ht (.inl rfl), ev, ew⟩
    · exact .inr (.inl ⟨b, m, x1, x2, v1, v2, w1, w2, e, hl, by omega, h.type (by omega) ht (.inr (.inl rfl)), cell_of_nk h (by omega) ht (.inr (.inl rfl)) c1, cell_of_nk h (by omega) ht (.inr (.inl rfl)) c2, Rep.keep h d r (b + 1) m m x1 v1 w1 (by omega) (Nat.le_refl _) r1, Rep.keep h d r m hi hi' x2 v2 w2 (by have := Rep.lohi r1; omega) hh r2, ev, ew⟩)
    · exact .inr (.inr (.inl ⟨b, x1, v1, w1, e, hl, by omega, h.type (by omega) ht (.inr (.inr (.inl rfl))), cell_of_nk h (by omega) ht (.inr (.inr (.inl rfl))) c1, Rep.keep h d r (b + 1) hi hi' x1 v1 w1 (by omega) hh r1, ev, ew⟩))
    · exact .inr (.inr (.inr (.inl ⟨b, x1, v1, w1, e, hl, by omega, h.type (by omega) ht (.inr (.inr (.inr (.inl rfl)))), cell_of_nk h (by omega) ht (.inr (.inr (.inr (.inl rfl)))) c1, Rep.keep h d r (b + 1) hi hi' x1 v1 w1 (by omega) hh r1, ev, ew⟩)))
    · exact .inr (.inr (.inr (.inr ⟨b, x1, v1, w1, e, hl, by omega, h.type (by omega) ht (.inr (.inr (.inr (.inr rfl)))), Rep.keep h d false (b + 1) hi hi' x1 v1 w1 (by omega) hh r1, ev, ew⟩)))
theorem Rep.low {W : World} {d : Nat} {r : Bool} {lo lo' hi : Nat} {x : Value} {vs : List Value} {ws : List Bool} (h : Rep W d r lo hi x vs ws) (hl : lo' ≤ lo) : Rep W d r lo' hi x vs ws := by
  cases d with
  | zero => exact h
  | succ d =>
    rcases h with ⟨b, e, h1, r⟩ | ⟨b, m, x1, x2, v1, v2, w1, w2, e, h1, r⟩ | ⟨b, x1, v1, w1, e, h1, r⟩ | ⟨b, x1, v1, w1, e, h1, r⟩ | ⟨b, x1, v1, w1, e, h1, r⟩
    · exact .inl ⟨b, e, by omega, r⟩
    · exact .inr (.inl ⟨b, m, x1, x2, v1, v2, w1, w2, e, by omega, r⟩)
    · exact .inr (.inr (.inl ⟨b, x1, v1, w1, e, by omega, r⟩))
    · exact .inr (.inr (.inr (.inl ⟨b, x1, v1, w1, e, by omega, r⟩)))
    · exact .inr (.inr (.inr (.inr ⟨b, x1, v1, w1, e, by omega, r⟩)))
theorem Rep.deep {W : World} : ∀ (d d' : Nat) (r : Bool) (lo hi : Nat) (x : Value) (vs : List Value) (ws : List Bool), d ≤ d' → Rep W d r lo hi x vs ws → Rep W d' r lo hi x vs ws
  | 0, _, _, _, _, _, _, _, _, h => h.elim
  | d + 1, 0, _, _, _, _, _, _, hd, _ => absurd hd (by omega)
  | d + 1, d' + 1, r, lo, hi, x, vs, ws, hd, h => by
    rcases h with h | ⟨b, m, x1, x2, v1, v2, w1, w2, e, h1, h2, ht, c1, c2, r1, r2, q⟩ | ⟨b, x1, v1, w1, e, h1, h2, ht, c1, r1, q⟩ | ⟨b, x1, v1, w1, e, h1, h2, ht, c1, r1, q⟩ | ⟨b, x1, v1, w1, e, h1, h2, ht, r1, q⟩
    · exact .inl h
    · exact .inr (.inl ⟨b, m, x1, x2, v1, v2, w1, w2, e, h1, h2, ht, c1, c2, Rep.deep d d' _ _ _ _ _ _ (by omega) r1, Rep.deep d d' _ _ _ _ _ _ (by omega) r2, q⟩)
    · exact .inr (.inr (.inl ⟨b, x1, v1, w1, e, h1, h2, ht, c1, Rep.deep d d' _ _ _ _ _ _ (by omega) r1, q⟩))
    · exact .inr (.inr (.inr (.inl ⟨b, x1, v1, w1, e, h1, h2, ht, c1, Rep.deep d d' _ _ _ _ _ _ (by omega) r1, q⟩)))
    · exact .inr (.inr (.inr (.inr ⟨b, x1, v1, w1, e, h1, h2, ht, Rep.deep d d' _ _ _ _ _ _ (by omega) r1, q⟩)))
/-- the builder at block B: L bytes of code, pos read; its two lists -/
def BSt (B : Nat) (A : Option Addr) (L : Nat) (f : Nat → Int) (pos : Nat) (vn vw : Value) (ns : List Value) (ws : List Bool) (W : World) : Prop :=
  ((W.cell? ⟨B, 0, none⟩ = some (.slice A L L) ∧ W.cell? ⟨B, 1, none⟩ = some (.int .i64 pos)) ∧ W.cell? ⟨B, 2, none⟩ = some vn ∧ W.cell? ⟨B, 3, none⟩ = some vw) ∧ (W.frozen? ⟨B, 1, none⟩ = false ∧ W.frozen? ⟨B, 2, none⟩ = false ∧ W.frozen? ⟨B, 3, none⟩ = false) ∧
  (RowOf .u8 W A L f ∧ (∀ g, A = some ⟨g, 0, none⟩ → g < B)) ∧ (W.ownsRow (B + 1) 34 1 vn ns.length ns ∧ W.ownsRow (B + 1) 4 1 vw ws.length (ws.map Value.bool)) ∧ pos ≤ L ∧ TypeAt W B 77
theorem BSt.lt {B : Nat} {A : Option Addr} {L : Nat} {f : Nat → Int} {pos : Nat} {vn vw : Value} {ns : List Value} {ws : List Bool} {W : World} (h : BSt B A L f pos vn vw ns ws W) : B < W.heap.size := by have := World.block_lt_of_cell? _ _ h.1.1.1; simpa using this
theorem row_lt {A : Option Addr} {n : Nat} {f : Nat → Int} {W W' : World} (h : RowOf .u8 W A n f) (hk : ∀ g, A = some ⟨g, 0, none⟩ → W'.heap[g]? = W.heap[g]?) : RowOf .u8 W' A n f := fun i hi => by
  obtain ⟨g, e, hc⟩ := h i hi
  exact ⟨g, e, by rw [World.cell?_of_block (w := W) (hk g e)]; exact hc⟩
theorem below_block {B : Nat} {W W' : World} (h : Below B W W') {k : Nat} (hk : k < B) : W'.heap[k]? = W.heap[k]? := h.5 k hk
theorem BSt.below {B : Nat} {A : Option Addr} {L : Nat} {f : Nat → Int} {pos : Nat} {vn vw : Value} {ns : List Value} {ws : List Bool} {W W' : World} (h : BSt B A L f pos vn vw ns ws W) (hb : Below W.heap.size W W') : BSt B A L f pos vn vw ns ws W' := by
  have z := h.lt
  obtain ⟨⟨⟨h0, h1⟩, h2, h3⟩, ⟨f1, f2, f3⟩, ⟨hr, hA⟩, ⟨hn, hw⟩, hp, hTB⟩ := h
  have e : W'.heap[B]? = W.heap[B]? := hb.5 B z
  have g0 : W.grownBy W' none := grown_of hb none
  refine ⟨⟨⟨?_, ?_⟩, ?_, ?_⟩, ⟨?_, ?_, ?_⟩, ⟨row_lt hr (fun g eg => hb.5 g (by have := hA g eg; omega)), hA⟩, ⟨hn.kept g0 (by cases vn.ownBlock <;> simp), hw.kept g0 (by cases vw.ownBlock <;> simp)⟩, hp, by obtain ⟨C, hC⟩ := hTB; exact ⟨C, by rw [e]; exact hC⟩⟩
  all_goals first | (rw [World.cell?_of_block (w := W) e]; assumption) | (rw [World.frozen?_of_block (w := W) e]; assumption)
/-- rows of two kinds of elements are two rows -/
theorem rows_apart {W : World} {b c : Nat} {E F : TypeId} {v u : Value} {n m : Nat} {xs ys : List Value} (h : W.ownsRow b E 1 v n xs) (k : W.ownsRow c F 1 u m ys) (hne : E ≠ F) : v.ownBlock = none ∨ v.ownBlock ≠ u.ownBlock := by
  rcases h.2 with ⟨rfl, _⟩ | ⟨g, cap, cur, rfl, _, hg, _⟩
  · exact .inl rfl
  · rcases k.2 with ⟨rfl, _⟩ | ⟨g', cap', cur', rfl, _, hg', _⟩
    · exact .inr (by simp [Value.ownBlock])
    · refine .inr (fun e => hne ?_)
      simp only [Value.ownBlock, Option.some.injEq] at e
      subst e
      rw [hg] at hg'
      injection hg' with hg'
      injection hg' with _ e2 _
theorem row_node {W : World} {b : Nat} {E : TypeId} {v : Value} {n : Nat} {xs : List Value} (h : W.ownsRow b E 1 v n xs) {k : Nat} {C : Array Value} {T : TypeId} (hk : W.heap[k]? = some (.cells C T (0, 0))) (hne : T ≠ E) : some k ≠ v.ownBlock := by
  rcases h.2 with ⟨rfl, _⟩ | ⟨g, cap, cur, rfl, _, hg, _⟩
  · simp [Value.ownBlock]
  · intro e
    simp only [Value.ownBlock, Option.some.injEq] at e
    subst e
    rw [hg] at hk
    injection hk with hk
    injection hk with _ e2 _
    exact hne e2.symm
theorem row_base {W : World} {b : Nat} {E : TypeId} {v : Value} {n : Nat} {xs : List Value} (h : W.ownsRow b E 1 v n xs) {k : Nat} (hk : k < b) : some k ≠ v.ownBlock := fun e => by
  have := h.lt k e.symm; omega
/-- a node put into the list -/
theorem BSt.push1 {B : Nat} {A : Option Addr} {L : Nat} {f : Nat → Int} {pos : Nat} {vn vw v' : Value} {ns : List Value} {ws : List Bool} {W U w1 : World} {x : Value} (h : BSt B A L f pos vn vw ns ws W) (hU : Below W.heap.size W U) (hg : U.grownBy w1 vn.ownBlock) (ho : w1.ownsRow (B + 1) 34 1 v' (ns.length + 1) (ns ++ [x])) :
    BSt B A L f pos v' vw (ns ++ [x]) ws (w1.setCell ⟨B, 2, none⟩ v') ∧ NK 0 W (w1.setCell ⟨B, 2, none⟩ v') ∧ Below B W (w1.setCell ⟨B, 2, none⟩ v') := by
  have hW := h
  have hz := h.lt
  replace h := h.below hU
  have z := h.lt
  have zU := hU.size
  obtain ⟨⟨⟨h0, h1⟩, h2, h3⟩, ⟨f1, f2, f3⟩, ⟨hr, hA⟩, ⟨hn, hw⟩, hp, hTB⟩ := h
  have eB : w1.heap[B]? = U.heap[B]? := hg.block B z (row_base hn (by omega))
  have ebl : ∀ k, k < B → (w1.setCell ⟨B, 2, none⟩ v').heap[k]? = U.heap[k]? := fun k hk => by
    rw [heap_setCell_other _ _ _ _ (by show k ≠ B; omega)]
    exact hg.block k (by omega) (row_base hn (by omega))
  have k0 : w1.cell? ⟨B, 0, none⟩ = some (.slice A L L) := by rw [World.cell?_of_block (w := U) eB]; exact h0
  have k1 : w1.cell? ⟨B, 1, none⟩ = some (.int .i64 pos) := by rw [World.cell?_of_block (w := U) eB]; exact h1
  have k2 : w1.cell? ⟨B, 2, none⟩ = some vn := by rw [World.cell?_of_block (w := U) eB]; exact h2
  have k3 : w1.cell? ⟨B, 3, none⟩ = some vw := by rw [World.cell?_of_block (w := U) eB]; exact h3
  have g1 : w1.frozen? ⟨B, 1, none⟩ = false := by rw [World.frozen?_of_block (w := U) eB]; exact f1
  have g2 : w1.frozen? ⟨B, 2, none⟩ = false := by rw [World.frozen?_of_block (w := U) eB]; exact f2
  have g3 : w1.frozen? ⟨B, 3, none⟩ = false := by rw [World.frozen?_of_block (w := U) eB]; exact f3
  have hset : w1.grownBy (w1.setCell ⟨B, 2, none⟩ v') (some B) := ⟨rfl, rfl, rfl, by simp, fun k _ hk => heap_setCell_other _ _ _ _ (fun e => hk (by rw [e]))⟩
  have nB : ∀ u : Value, ∀ E n xs, w1.ownsRow (B + 1) E 1 u n xs → u.ownBlock = none ∨ u.ownBlock ≠ some B := fun u E n xs hu => by
    by_cases hc : u.ownBlock = some B
    · exact absurd hc.symm (row_base hu (by omega))
    · exact .inr hc
  have hw1 := hw.kept hg (rows_apart hw hn (by decide))
  have hTB1 : TypeAt (w1.setCell ⟨B, 2, none⟩ v') B 77 := by
    obtain ⟨C, hC⟩ := hTB
    exact ⟨_, heap_setCell_same w1 B 2 C _ v' (by rw [eB]; exact hC)⟩
  refine ⟨⟨⟨⟨by simp [go_sem, k0], by simp [go_sem, k1]⟩, by simp [go_sem, k2], by simp [go_sem, k3]⟩, ⟨by simp [go_sem, g1], by simp [go_sem, g2], by simp [go_sem, g3]⟩, ⟨row_lt hr (fun g eg => ebl g (hA g eg)), hA⟩, ⟨by rw [List.length_append]; exact ho.kept hset (nB _ _ _ _ ho), hw1.kept hset (nB _ _ _ _ hw1)⟩, hp, hTB1⟩, ?_, ?_⟩
  · intro k C T _ hk hT
    have hkU : U.heap[k]? = some (.cells C T (0, 0)) := by rw [hU.5 k (Array.getElem?_eq_some_iff.1 hk).1]; exact hk
    have hkB : k ≠ B := fun e => by
      subst e
      obtain ⟨C', hC'⟩ := hTB
      rw [hkU] at hC'
      injection hC' with hC'
      injection hC' with _ e2 _
      subst e2
      rcases hT with h | h | h | h | h <;> exact absurd h (by decide)
    rw [heap_setCell_other _ _ _ _ (by show k ≠ B; exact hkB), hg.block k (Array.getElem?_eq_some_iff.1 hkU).1 (row_node hn hkU hT.ne.1)]
    exact hkU
  · exact (((Below.refl _ _).trans (hU.mono (by omega))).grown hg (by omega) (fun k e => by have := hn.lt k e; omega)).setCell (p := ⟨B, 2, none⟩) (Nat.le_refl B) _
/-- a wish put into the list -/
theorem BSt.push2 {B : Nat} {A : Option Addr} {L : Nat} {f : Nat → Int} {pos : Nat} {vn vw v' : Value} {ns : List Value} {ws : List Bool} {W U w1 : World} {x : Bool} (h : BSt B A L f pos vn vw ns ws W) (hU : Below W.heap.size W U) (hg : U.grownBy w1 vw.ownBlock) (ho : w1.ownsRow (B + 1) 4 1 v' (ws.length + 1) (ws.map Value.bool ++ [.bool x])) :
    BSt B A L f pos vn v' ns (ws ++ [x]) (w1.setCell ⟨B, 3, none⟩ v') ∧ NK 0 W (w1.setCell ⟨B, 3, none⟩ v') ∧ Below B W (w1.setCell ⟨B, 3, none⟩ v') := by
  have hW := h
  have hz := h.lt
  replace h := h.below hU
  have z := h.lt
  have zU := hU.size
  obtain ⟨⟨⟨h0, h1⟩, h2, h3⟩, ⟨f1, f2, f3⟩, ⟨hr, hA⟩, ⟨hn, hw⟩, hp, hTB⟩ := h
  have eB : w1.heap[B]? = U.heap[B]? := hg.block B z (row_base hw (by omega))
  have ebl : ∀ k, k < B → (w1.setCell ⟨B, 3, none⟩ v').heap[k]? = U.heap[k]? := fun k hk => by
    rw [heap_setCell_other _ _ _ _ (by show k ≠ B; omega)]
    exact hg.block k (by omega) (row_base hw (by omega))
  have k0 : w1.cell? ⟨B, 0, none⟩ = some (.slice A L L) := by rw [World.cell?_of_block (w := U) eB]; exact h0
  have k1 : w1.cell? ⟨B, 1, none⟩ = some (.int .i64 pos) := by rw [World.cell?_of_block (w := U) eB]; exact h1
  have k2 : w1.cell? ⟨B, 2, none⟩ = some vn := by rw [World.cell?_of_block (w := U) eB]; exact h2
  have k3 : w1.cell? ⟨B, 3, none⟩ = some vw := by rw [World.cell?_of_block (w := U) eB]; exact h3
  have g1 : w1.frozen? ⟨B, 1, none⟩ = false := by rw [World.frozen?_of_block (w := U) eB]; exact f1
  have g2 : w1.frozen? ⟨B, 2, none⟩ = false := by rw [World.frozen?_of_block (w := U) eB]; exact f2
  have g3 : w1.frozen? ⟨B, 3, none⟩ = false := by rw [World.frozen?_of_block (w := U) eB]; exact f3
  have hset : w1.grownBy (w1.setCell ⟨B, 3, none⟩ v') (some B) := ⟨rfl, rfl, rfl, by simp, fun k _ hk => heap_setCell_other _ _ _ _ (fun e => hk (by rw [e]))⟩
  have nB : ∀ u : Value, ∀ E n xs, w1.ownsRow (B + 1) E 1 u n xs → u.ownBlock = none ∨ u.ownBlock ≠ some B := fun u E n xs hu => by
    by_cases hc : u.ownBlock = some B
    · exact absurd hc.symm (row_base hu (by omega))
    · exact .inr hc
  have hn1 := hn.kept hg (rows_apart hn hw (by decide))
  have hTB1 : TypeAt (w1.setCell ⟨B, 3, none⟩ v') B 77 := by
    obtain ⟨C, hC⟩ := hTB
    exact ⟨_, heap_setCell_same w1 B 3 C _ v' (by rw [eB]; exact hC)⟩
  refine ⟨⟨⟨⟨by simp [go_sem, k0], by simp [go_sem, k1]⟩, by simp [go_sem, k2], by simp [go_sem, k3]⟩, ⟨by simp [go_sem, g1], by simp [go_sem, g2], by simp [go_sem, g3]⟩, ⟨row_lt hr (fun g eg => ebl g (hA g eg)), hA⟩, ⟨hn1.kept hset (nB _ _ _ _ hn1), by rw [List.length_append, List.map_append]; exact ho.kept hset (nB _ _ _ _ ho)⟩, hp, hTB1⟩, ?_, ?_⟩
  · intro k C T _ hk hT
    have hkU : U.heap[k]? = some (.cells C T (0, 0)) := by rw [hU.5 k (Array.getElem?_eq_some_iff.1 hk).1]; exact hk
    have hkB : k ≠ B := fun e => by
      subst e
      obtain ⟨C', hC'⟩ := hTB
      rw [hkU] at hC'
      injection hC' with hC'
      injection hC' with _ e2 _
      subst e2
      rcases hT with h | h | h | h | h <;> exact absurd h (by decide)
    rw [heap_setCell_other _ _ _ _ (by show k ≠ B; exact hkB), hg.block k (Array.getElem?_eq_some_iff.1 hkU).1 (row_node hw hkU hT.ne.2)]
    exact hkU
  · exact (((Below.refl _ _).trans (hU.mono (by omega))).grown hg (by omega) (fun k e => by have := hw.lt k e; omega)).setCell (p := ⟨B, 3, none⟩) (Nat.le_refl B) _
/-- the builder's cells behind an append -/
theorem BSt.raw {B : Nat} {A : Option Addr} {L : Nat} {f : Nat → Int} {pos : Nat} {vn vw : Value} {ns : List Value} {ws : List Bool} {W U w1 : World} {row : Option Nat} (h : BSt B A L f pos vn vw ns ws W) (hU : Below W.heap.size W U) (hg : U.grownBy w1 row) (hr : row ≠ some B) :
    w1.cell? ⟨B, 0, none⟩ = some (.slice A L L) ∧ w1.cell? ⟨B, 1, none⟩ = some (.int .i64 pos) ∧ w1.cell? ⟨B, 2, none⟩ = some vn ∧ w1.cell? ⟨B, 3, none⟩ = some vw ∧ w1.frozen? ⟨B, 1, none⟩ = false ∧ w1.frozen? ⟨B, 2, none⟩ = false ∧ w1.frozen? ⟨B, 3, none⟩ = false ∧ B < w1.heap.size := by
  have z := (h.below hU).lt
  obtain ⟨⟨⟨h0, h1⟩, h2, h3⟩, ⟨f1, f2, f3⟩, _⟩ := h.below hU
  have eB : w1.heap[B]? = U.heap[B]? := hg.block B z (fun e => hr e.symm)
  have zz := hg.size
  refine ⟨?_, ?_, ?_, ?_, ?_, ?_, ?_, by omega⟩
  all_goals first | (rw [World.cell?_of_block (w := U) eB]; assumption) | (rw [World.frozen?_of_block (w := U) eB]; assumption)
theorem BSt.row1 {B : Nat} {A : Option Addr} {L : Nat} {f : Nat → Int} {pos : Nat} {vn vw : Value} {ns : List Value} {ws : List Bool} {W : World} (h : BSt B A L f pos vn vw ns ws W) : vn.ownBlock ≠ some B := fun e => by have := h.2.2.2.1.1.lt B e; omega
theorem BSt.row2 {B : Nat} {A : Option Addr} {L : Nat} {f : Nat → Int} {pos : Nat} {vn vw : Value} {ns : List Value} {ws : List Bool} {W : World} (h : BSt B A L f pos vn vw ns ws W) : vw.ownBlock ≠ some B := fun e => by have := h.2.2.2.1.2.lt B e; omega
/-- a store into a node leaves the builder alone -/
theorem BSt.node {B : Nat} {A : Option Addr} {L : Nat} {f : Nat → Int} {pos : Nat} {vn vw v : Value} {ns : List Value} {ws : List Bool} {W : World} {n o : Nat} {C : Array Value} {T : TypeId} (h : BSt B A L f pos vn vw ns ws W) (hn : W.heap[n]? = some (.cells C T (0, 0))) (hT : NodeT T) (hB : B < n) : BSt B A L f pos vn vw ns ws (W.setCell ⟨n, o, none⟩ v) := by
  have z := h.lt
  obtain ⟨⟨⟨h0, h1⟩, h2, h3⟩, ⟨f1, f2, f3⟩, ⟨hr, hA⟩, ⟨hv, hw⟩, hp, hTB⟩ := h
  have e : (W.setCell ⟨n, o, none⟩ v).heap[B]? = W.heap[B]? := heap_setCell_other _ _ _ _ (by show B ≠ n; omega)
  have hset : W.grownBy (W.setCell ⟨n, o, none⟩ v) (some n) := ⟨rfl, rfl, rfl, by simp, fun k _ hk => heap_setCell_other _ _ _ _ (fun e => hk (by rw [e]))⟩
  have q1 := row_node hv hn hT.ne.1
  have q2 := row_node hw hn hT.ne.2
  refine ⟨⟨⟨?_, ?_⟩, ?_, ?_⟩, ⟨?_, ?_, ?_⟩, ⟨row_lt hr (fun g eg => heap_setCell_other _ _ _ _ (by show g ≠ n; have := hA g eg; omega)), hA⟩, ⟨hv.kept hset (.inr (fun e => q1 e.symm)), hw.kept hset (.inr (fun e => q2 e.symm))⟩, hp, by obtain ⟨C, hC⟩ := hTB; exact ⟨C, by rw [e]; exact hC⟩⟩
  all_goals first | (rw [World.cell?_of_block (w := W) e]; assumption) | (rw [World.frozen?_of_block (w := W) e]; assumption)
theorem NK.setB {l : Nat} {W : World} {B o : Nat} {v : Value} (h : TypeAt W B 77) : NK l W (W.setCell ⟨B, o, none⟩ v) := fun k C T hl hk hT => by
  have hkB : k ≠ B := fun e => by
    subst e
    obtain ⟨C', hC'⟩ := h
    rw [hk] at hC'
    injection hC' with hC'
    injection hC' with _ e2 _
    subst e2
    rcases hT with h | h | h | h | h <;> exact absurd h (by decide)
  rw [heap_setCell_other _ _ _ _ (by show k ≠ B; exact hkB)]
  exact hk
/-- a byte read -/
theorem BSt.next {B : Nat} {A : Option Addr} {L : Nat} {f : Nat → Int} {pos : Nat} {vn vw : Value} {ns : List Value} {ws : List Bool} {W : World} (h : BSt B A L f pos vn vw ns ws W) (hp : pos < L) : BSt B A L f (pos + 1) vn vw ns ws (W.setCell ⟨B, 1, none⟩ (.int .i64 ((pos : Int) + 1))) := by
  have z := h.lt
  obtain ⟨⟨⟨h0, h1⟩, h2, h3⟩, ⟨f1, f2, f3⟩, ⟨hr, hA⟩, ⟨hv, hw⟩, _, hTB⟩ := h
  have hset : W.grownBy (W.setCell ⟨B, 1, none⟩ (.int .i64 ((pos : Int) + 1))) (some B) := ⟨rfl, rfl, rfl, by simp, fun k _ hk => heap_setCell_other _ _ _ _ (fun e => hk (by rw [e]))⟩
  refine ⟨⟨⟨by simp [go_sem, h0], by simp [go_sem, h1]⟩, by simp [go_sem, h2], by simp [go_sem, h3]⟩, ⟨by simp [go_sem, f1], by simp [go_sem, f2], by simp [go_sem, f3]⟩, ⟨row_lt hr (fun g eg => heap_setCell_other _ _ _ _ (by show g ≠ B; have := hA g eg; omega)), hA⟩, ⟨hv.kept hset (.inr (fun e => by have := hv.lt B e; omega)), hw.kept hset (.inr (fun e => by have := hw.lt B e; omega))⟩, by omega, ?_⟩
  obtain ⟨C, hC⟩ := hTB
  exact ⟨_, heap_setCell_same W B 1 C _ _ hC⟩
end Go.Proofs.Ytgeaokgcmhkoaaa
