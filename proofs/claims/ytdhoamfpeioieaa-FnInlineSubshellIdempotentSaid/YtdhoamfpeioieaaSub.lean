/- Lists of statements that are lone subshells, one in the other, and what inlineSubshell answers. Conditions: the cells. -/
import Derived.Test.YtdhoamfpeioieaaRpt
namespace Go.Proofs.Ytdhoamfpeioieaa
open Go.RowKit
set_option linter.unusedVariables false

/-- a statement at which the method stops -/
def StopS (W : World) (p : Nat) : Prop :=
  W.cell? ⟨p, 6, none⟩ = some (.bool true) ∨
  (W.cell? ⟨p, 6, none⟩ = some (.bool false) ∧ W.cell? ⟨p, 7, none⟩ = some (.bool true)) ∨
  (W.cell? ⟨p, 6, none⟩ = some (.bool false) ∧ W.cell? ⟨p, 7, none⟩ = some (.bool false) ∧ W.cell? ⟨p, 8, none⟩ = some (.bool true)) ∨
  (W.cell? ⟨p, 6, none⟩ = some (.bool false) ∧ W.cell? ⟨p, 7, none⟩ = some (.bool false) ∧ W.cell? ⟨p, 8, none⟩ = some (.bool false) ∧ W.cell? ⟨p, 9, none⟩ = some (.bool true)) ∨
  (W.cell? ⟨p, 6, none⟩ = some (.bool false) ∧ W.cell? ⟨p, 7, none⟩ = some (.bool false) ∧ W.cell? ⟨p, 8, none⟩ = some (.bool false) ∧ W.cell? ⟨p, 9, none⟩ = some (.bool false) ∧ ∃ a, W.cell? ⟨p, 10, none⟩ = some (.slice (some a) 1 1)) ∨
  (W.cell? ⟨p, 6, none⟩ = some (.bool false) ∧ W.cell? ⟨p, 7, none⟩ = some (.bool false) ∧ W.cell? ⟨p, 8, none⟩ = some (.bool false) ∧ W.cell? ⟨p, 9, none⟩ = some (.bool false) ∧ W.cell? ⟨p, 10, none⟩ = some (.slice none 0 0) ∧ ∃ q : Nat, W.cell? ⟨p, 1, none⟩ = some (.iface 76 (.pointer (some ⟨q, 0, none⟩))))
theorem StopS.keep {W w : World} {p : Nat} (h : StopS W p) (hc : ∀ o v, W.cell? ⟨p, o, none⟩ = some v → w.cell? ⟨p, o, none⟩ = some v) : StopS w p := by
  rcases h with h | ⟨h1, h2⟩ | ⟨h1, h2, h3⟩ | ⟨h1, h2, h3, h4⟩ | ⟨h1, h2, h3, h4, a, h5⟩ | ⟨h1, h2, h3, h4, h5, q, h6⟩
  · exact .inl (hc _ _ h)
  · exact .inr (.inl ⟨hc _ _ h1, hc _ _ h2⟩)
  · exact .inr (.inr (.inl ⟨hc _ _ h1, hc _ _ h2, hc _ _ h3⟩))
  · exact .inr (.inr (.inr (.inl ⟨hc _ _ h1, hc _ _ h2, hc _ _ h3, hc _ _ h4⟩)))
  · exact .inr (.inr (.inr (.inr (.inl ⟨hc _ _ h1, hc _ _ h2, hc _ _ h3, hc _ _ h4, a, hc _ _ h5⟩))))
  · exact .inr (.inr (.inr (.inr (.inr ⟨hc _ _ h1, hc _ _ h2, hc _ _ h3, hc _ _ h4, hc _ _ h5, q, hc _ _ h6⟩))))
/-- a list at which the method stops; all its blocks are A -/
def StopL (W : World) (A : Nat → Prop) (s : Value) : Prop :=
  ∃ g n : Nat, s = .slice (some ⟨g, 0, none⟩) n n ∧ n ≤ 65536 ∧ (0 < n → A g) ∧ ∀ i, i < n → ∃ p : Nat, A p ∧ W.cell? ⟨g, i, none⟩ = some (.pointer (some ⟨p, 0, none⟩)) ∧ StopS W p
theorem StopL.keep {W w : World} {A B : Nat → Prop} {s : Value} (h : StopL W A s) (hc : ∀ b o v, A b → W.cell? ⟨b, o, none⟩ = some v → w.cell? ⟨b, o, none⟩ = some v) (hAB : ∀ b, A b → B b) : StopL w B s := by
  obtain ⟨g, n, e, hn, ha, hs⟩ := h
  refine ⟨g, n, e, hn, fun h => hAB g (ha h), fun i hi => ?_⟩
  obtain ⟨p, hp, hc1, hs1⟩ := hs i hi
  exact ⟨p, hAB p hp, hc _ _ _ (ha (by omega)) hc1, hs1.keep fun o v => hc p o v hp⟩
/-- k lone subshells around the list v0 -/
def ChainS (W : World) (A : Nat → Prop) (v0 : Value) : Nat → Value → Prop
  | 0, s => s = v0 ∧ StopL W A v0
  | k + 1, s => ∃ h p q : Nat, ∃ y : Value, s = .slice (some ⟨h, 0, none⟩) 1 1 ∧ (A h ∧ A p ∧ A q) ∧ W.cell? ⟨h, 0, none⟩ = some (.pointer (some ⟨p, 0, none⟩)) ∧
      (W.cell? ⟨p, 6, none⟩ = some (.bool false) ∧ W.cell? ⟨p, 7, none⟩ = some (.bool false) ∧ W.cell? ⟨p, 8, none⟩ = some (.bool false) ∧ W.cell? ⟨p, 9, none⟩ = some (.bool false) ∧ W.cell? ⟨p, 10, none⟩ = some (.slice none 0 0) ∧ W.cell? ⟨p, 1, none⟩ = some (.iface 87 (.pointer (some ⟨q, 0, none⟩)))) ∧
      W.cell? ⟨q, 4, none⟩ = some y ∧ ChainS W A v0 k y
theorem ChainS.keep {W w : World} {A B : Nat → Prop} {v0 : Value} (hc : ∀ b o v, A b → W.cell? ⟨b, o, none⟩ = some v → w.cell? ⟨b, o, none⟩ = some v) (hAB : ∀ b, A b → B b) :
    ∀ (k : Nat) (s : Value), ChainS W A v0 k s → ChainS w B v0 k s
  | 0, _, ⟨h1, h2⟩ => ⟨h1, h2.keep hc hAB⟩
  | k + 1, _, ⟨h, p, q, y, e, ⟨a1, a2, a3⟩, c1, ⟨f1, f2, f3, f4, f5, f6⟩, c2, hr⟩ =>
    ⟨h, p, q, y, e, ⟨hAB _ a1, hAB _ a2, hAB _ a3⟩, hc _ _ _ a1 c1, ⟨hc _ _ _ a2 f1, hc _ _ _ a2 f2, hc _ _ _ a2 f3, hc _ _ _ a2 f4, hc _ _ _ a2 f5, hc _ _ _ a2 f6⟩, hc _ _ _ a3 c2, ChainS.keep hc hAB k y hr⟩
/-- all blocks of a chain are there -/
theorem StopS.lt {W : World} {p : Nat} (h : StopS W p) : p < W.heap.size := by
  have hz : ∀ o v, W.cell? ⟨p, o, none⟩ = some v → p < W.heap.size := fun o v h => by have := World.block_lt_of_cell? _ _ h; simpa using this
  rcases h with h | ⟨h1, _⟩ | ⟨h1, _⟩ | ⟨h1, _⟩ | ⟨h1, _⟩ | ⟨h1, _⟩
  · exact hz _ _ h
  all_goals exact hz _ _ h1
theorem ChainS.old {W : World} {A : Nat → Prop} {v0 : Value} {sb : Nat} (hsb : W.heap.size ≤ sb) :
    ∀ (k : Nat) (s : Value), ChainS W A v0 k s → ChainS W (fun b => b < sb) v0 k s
  | 0, _, ⟨h1, g, n, e, hn, ha, hs⟩ => ⟨h1, g, n, e, hn, fun h0 => by
      obtain ⟨p, _, hc1, _⟩ := hs 0 h0
      have := World.block_lt_of_cell? _ _ hc1
      simp at this
      omega, fun i hi => by
      obtain ⟨p, hp, hc1, hs1⟩ := hs i hi
      exact ⟨p, Nat.lt_of_lt_of_le hs1.lt hsb, hc1, hs1⟩⟩
  | k + 1, _, ⟨h, p, q, y, e, ⟨a1, a2, a3⟩, c1, f, c2, hr⟩ => by
    have hz : ∀ b o v, W.cell? ⟨b, o, none⟩ = some v → b < sb := fun b o v h => by have := World.block_lt_of_cell? _ _ h; simp at this; omega
    exact ⟨h, p, q, y, e, ⟨hz _ _ _ c1, hz _ _ _ f.1, hz _ _ _ c2⟩, c1, f, c2, ChainS.old hsb k y hr⟩
def ModS (sb k : Nat) (m0 : Bool) (w : World) : Prop := ∃ m : Bool, w.cell? ⟨sb, 0, none⟩ = some (.bool m) ∧ (m0 = false → m = decide (0 < k))
set_option maxRecDepth 100000 in
set_option maxHeartbeats 2000000 in
/-- the method: it walks down to the first list that is no lone plain subshell; it writes its own flag alone -/
theorem inl_any (sb k : Nat) (s v0 : Value) (m0 : Bool) (w : World) (hc0 : w.cell? ⟨sb, 0, none⟩ = some (.bool m0)) (hf0 : w.frozen? ⟨sb, 0, none⟩ = false) (hch : ChainS w (fun b => b < sb) v0 k s) :
    Calls Try.prog 25 #[.pointer (some ⟨sb, 0, none⟩), s] w fun e w' => e = .returned v0 ∧ Below sb w w' ∧ ModS sb k m0 w' := by
  have t1 := as_Command_Subshell_Subshell
  have t2 := as_Command_CallExpr_Subshell
  have hsz := World.block_lt_of_cell? w _ hc0
  simp only at hsz
  have H := Lib.hid (show ChainS w (fun b => b < sb) v0 k s ∧ Below sb w w ∧ ∃ m : Bool, w.cell? ⟨sb, 0, none⟩ = some (.bool m) ∧ w.frozen? ⟨sb, 0, none⟩ = false ∧ k ≤ k ∧ (m0 = false → m = decide (k < k)) from ⟨hch, Below.refl _ _, m0, hc0, hf0, Nat.le_refl _, fun h => by rw [h]; simp⟩)
  clear hc0 hf0 hch
  go_enter Try.func25, Try.ntmps25
  go_wp2_with fail
  go_loopg [1] k (fun j xv wr => ChainS wr (fun b => b < sb) v0 j xv ∧ Below sb w wr ∧ ∃ m : Bool, wr.cell? ⟨sb, 0, none⟩ = some (.bool m) ∧ wr.frozen? ⟨sb, 0, none⟩ = false ∧ j ≤ k ∧ (m0 = false → m = decide (j < k)))
  case atStart => exact H.out
  case round =>
    clear H
    obtain ⟨hch, hB, m, hc0, hf0, hjk, hm⟩ := hrel
    have HM := Lib.hid hm
    clear hm
    have hsz : sb < wr.heap.size := by have := World.block_lt_of_cell? wr _ hc0; simpa using this
    cases gk with
    | zero =>
      obtain ⟨rfl, g, n, rfl, hn, hg, hs⟩ := hch
      by_cases h1 : n = 1
      · subst h1
        obtain ⟨p, hp, c1, hst⟩ := hs 0 (by omega)
        clear hs
        have z1 := World.block_lt_of_cell? _ _ c1
        have z2 := hst.lt
        simp only at z1
        rcases hst with f1 | ⟨f1, f2⟩ | ⟨f1, f2, f3⟩ | ⟨f1, f2, f3, f4⟩ | ⟨f1, f2, f3, f4, a, f5⟩ | ⟨f1, f2, f3, f4, f5, q, f6⟩
        all_goals
          go_wp2
          go_ret
          exact ⟨rfl, hB, m, hc0, HM.out⟩
      · have e1 : ((n : Int) == 1) = false := by simp; omega
        have HS := Lib.hid hs
        clear hs h1
        go_wp2
        go_ret
        exact ⟨rfl, hB, m, hc0, HM.out⟩
    | succ j =>
      obtain ⟨h, p, q, y, rfl, ⟨a1, a2, a3⟩, c1, ⟨f1, f2, f3, f4, f5, f6⟩, c2, hr⟩ := hch
      have HR := Lib.hid hr
      clear hr
      have n1 : h ≠ sb := by omega
      have n2 : p ≠ sb := by omega
      have n3 : q ≠ sb := by omega
      have z1 := World.block_lt_of_cell? _ _ c1
      have z2 := World.block_lt_of_cell? _ _ f1
      have z3 := World.block_lt_of_cell? _ _ c2
      simp only at z1 z2 z3
      go_wp2
      go_roundg j
      case rel =>
        refine ⟨ChainS.keep (fun b o v hb h => ?_) (fun _ h => h) j y HR.out, hB.setCell (Nat.le_refl _) _, true, by simp [go_sem, hc0], by simp [go_sem, hf0], by omega, fun _ => by simp; omega⟩
        rw [World.cell?_setCell_other _ _ _ _ (fun e => by injection e with e; omega)]
        exact h
      case measure => omega
set_option maxRecDepth 100000 in
set_option maxHeartbeats 1000000 in
theorem zinl_any (k : Nat) (s v0 : Value) (w : World) (hch : ChainS w (fun b => b < w.heap.size) v0 k s) :
    Calls Try.prog 8 #[s] w fun e w' => (∃ m : Bool, e = .returned (.tuple #[v0, .bool m]) ∧ m = decide (0 < k)) ∧ ChainS w' (fun b => b < w'.heap.size) v0 0 v0 ∧ Below w.heap.size w w' := by
  have HC := Lib.hid hch
  have hend : ∀ w' : World, Below w.heap.size w w' → ChainS w' (fun b => b < w'.heap.size) v0 0 v0 := by
    intro w' hb
    have h2 := HC.out
    clear HC hch
    induction k generalizing s with
    | zero =>
      obtain ⟨_, hl⟩ := h2
      exact ⟨rfl, hl.keep (fun b o v _ h => cell_below hb h) (fun b h => Nat.lt_of_lt_of_le h hb.size)⟩
    | succ k ih =>
      obtain ⟨_, _, _, y, _, _, _, _, _, hr⟩ := h2
      exact ih y hr
  have HE := Lib.hid hend
  clear hch hend
  go_enter Try.func8, Try.ntmps8
  go_wp2_with fail
  refine (inl_any w.heap.size k s v0 false _ (by simp [go_sem]) (by simp [go_sem]) (HC.out.keep (fun b o v _ h => cell_alloc h) (fun _ h => h))).mono ?_
  rintro e w1 ⟨rfl, hb, m, hc, hm⟩
  have HM := Lib.hid (hm rfl)
  have HB := Lib.hid (show Below w.heap.size w w1 from ((Below.refl _ _).alloc (Nat.le_refl _) _).trans hb)
  have hz : w.heap.size < w1.heap.size := by have := World.block_lt_of_cell? w1 _ hc; simpa using this
  clear hm hb HC
  go_wp2_with fail
  go_quiet (fail)
  go_wp2
  go_ret2
  exact ⟨⟨m, rfl, HM.out⟩, HE.out _ (drewN_of HB.out), drewN_of HB.out⟩
set_option maxRecDepth 100000 in
set_option maxHeartbeats 1000000 in
theorem sst_any (A : Nat → Prop) (v0 : Value) (w : World) (h : StopL w A v0) :
    Calls Try.prog 9 #[v0, v0] w fun e w' => e = .returned (.bool true) ∧ Below w.heap.size w w' := by
  obtain ⟨g, n, rfl, hn, _, hs⟩ := h
  have q1 := ne_Stmt
  have HS := Lib.hid hs
  clear hs
  go_enter Try.func9, Try.ntmps9
  go_wp2_with fail
  go_loopw [5] (fun i wr => ∃ k : Nat, k ≤ n ∧ i = .int .i64 k ∧ Below w.heap.size w wr) (fun i _ => n - (intOf i).toNat)
  case atStart => exact ⟨0, Nat.zero_le _, rfl, Below.refl _ _⟩
  case round =>
    obtain ⟨k, hk, rfl, hB⟩ := hrel
    by_cases hlt : k < n
    · obtain ⟨p, _, c0, _⟩ := HS.out k hlt
      have c1 := cell_below hB c0
      clear c0
      have z1 := World.block_lt_of_cell? _ _ c1
      simp only at z1
      go_wp2_with fail
      go_quiet (fail)
      go_wp2_with fail
      go_roundw
      case rel =>
        first
          | exact ⟨k + 1, by omega, by go_num, drewN_of hB⟩
          | ((repeat apply Exists.intro); exact ⟨⟨k + 1, by omega, by go_num, drewN_of hB⟩, rfl⟩)
      case measure => simp [intOf]; omega
    · obtain rfl : k = n := by omega
      go_wp2
      go_ret
      exact ⟨rfl, hB⟩
end Go.Proofs.Ytdhoamfpeioieaa
