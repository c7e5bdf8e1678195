/- What buildWord makes: every part in its place. Conditions: sizes as the law bounds them. -/
import Derived.Test.YtimfajlnlfaffaaWord
namespace Go.Proofs.Ytimfajlnlfaffaa
open Go.RowKit
set_option linter.unusedVariables false

/-- the part at offset o, of kind k, that holds s, all its cells in blocks from lo on -/
def PartIs (lo : Nat) (k : Int) (s : ByteArray) (o : Int) (x : Value) (W : World) : Prop :=
  (k = 0 ∧ ∃ b, lo ≤ b ∧ x = .iface 34 (.pointer (some ⟨b, 0, none⟩)) ∧ W.cell? ⟨b, 0, none⟩ = some (.int .u32 o) ∧ W.cell? ⟨b, 1, none⟩ = some (.int .u32 (lc1 o)) ∧ W.cell? ⟨b, 2, none⟩ = some (.int .u32 (o + s.size)) ∧ W.cell? ⟨b, 3, none⟩ = some (.int .u32 (lc1 (o + s.size))) ∧ W.cell? ⟨b, 4, none⟩ = some (.string s)) ∨
  (k = 1 ∧ ∃ b, lo ≤ b ∧ x = .iface 113 (.pointer (some ⟨b, 0, none⟩)) ∧ W.cell? ⟨b, 0, none⟩ = some (.int .u32 o) ∧ W.cell? ⟨b, 1, none⟩ = some (.int .u32 (lc1 o)) ∧ W.cell? ⟨b, 2, none⟩ = some (.int .u32 (o + 1 + s.size)) ∧ W.cell? ⟨b, 3, none⟩ = some (.int .u32 (lc1 (o + 1 + s.size)))) ∨
  (k = 2 ∧ ∃ b, lo ≤ b ∧ x = .iface 116 (.pointer (some ⟨b, 0, none⟩)) ∧ W.cell? ⟨b, 0, none⟩ = some (.int .u32 o) ∧ W.cell? ⟨b, 1, none⟩ = some (.int .u32 (lc1 o)) ∧ W.cell? ⟨b, 2, none⟩ = some (.int .u32 (o + 1 + s.size)) ∧ W.cell? ⟨b, 3, none⟩ = some (.int .u32 (lc1 (o + 1 + s.size))))
theorem PartIs.keep {lo : Nat} {k : Int} {s : ByteArray} {o : Int} {x : Value} {W w : World} (hk : Keeps lo W w) (h : PartIs lo k s o x W) : PartIs lo k s o x w := by
  rcases h with ⟨e, b, hl, hx, c0, c1, c2, c3, c4⟩ | ⟨e, b, hl, hx, c0, c1, c2, c3⟩ | ⟨e, b, hl, hx, c0, c1, c2, c3⟩
  · exact .inl ⟨e, b, hl, hx, hk.cell c0 hl, hk.cell c1 hl, hk.cell c2 hl, hk.cell c3 hl, hk.cell c4 hl⟩
  · exact .inr (.inl ⟨e, b, hl, hx, hk.cell c0 hl, hk.cell c1 hl, hk.cell c2 hl, hk.cell c3 hl⟩)
  · exact .inr (.inr ⟨e, b, hl, hx, hk.cell c0 hl, hk.cell c1 hl, hk.cell c2 hl, hk.cell c3 hl⟩)
/-- k of n elements of type T stand in row g, made at w0; L j holds of element j -/
def APart (T : TypeId) (L : Nat → Value → World → Prop) (n g : Nat) (w0 : World) (k : Nat) (wr : World) : Prop :=
  k ≤ n ∧ Below g w0 wr ∧ g < wr.heap.size ∧ ∃ xs, wr.ownsRow g T 1 (.slice (some ⟨g, 0, none⟩) k n) k xs ∧ xs.length = k ∧ ∀ j, j < k → ∃ x, xs[j]? = some x ∧ L j x wr
theorem APart.start {T : TypeId} {L : Nat → Value → World → Prop} {n : Nat} {w0 w1 : World} (hown : w1.ownsRow w0.heap.size T 1 (.slice (some ⟨w0.heap.size, 0, none⟩) 0 n) 0 []) (hg : w0.grownBy w1 none) : APart T L n w0.heap.size w0 0 w1 :=
  ⟨Nat.zero_le _, (Below.refl _ _).grown hg (Nat.le_refl _) (by simp), (hown.lt w0.heap.size rfl).2, [], hown, rfl, fun j h => absurd h (by omega)⟩
theorem APart.step {T : TypeId} {L : Nat → Value → World → Prop} {n g k : Nat} {w0 wr U w4 : World} {xs : List Value} {x : Value} (hk : k < n) (hg0 : g = w0.heap.size) (hB : Below g w0 wr) (hgz : g < wr.heap.size) (hlen : xs.length = k)
    (hF : ∀ j, j < k → ∃ x, xs[j]? = some x ∧ L j x wr) (hU : Below wr.heap.size wr U) (hown : w4.ownsRow g T 1 (.slice (some ⟨g, 0, none⟩) (k + 1) n) (k + 1) (xs ++ [x])) (hg : U.grownBy w4 (some g))
    (hS : ∀ j x W W', Keeps (g + 1) W W' → L j x W → L j x W') (hL : L k x U) : APart T L n g w0 (k + 1) w4 := by
  have z3 := hU.size
  have z4 := hg.size
  refine ⟨by omega, (hB.trans (hU.mono (by omega))).grown hg (by omega) (by intro g' e; injection e; omega), by omega, _, hown, by simp [hlen], fun j hj => ?_⟩
  by_cases h : j < k
  · obtain ⟨y, h1, h2⟩ := hF j h
    exact ⟨y, by rw [List.getElem?_append_left (by omega)]; exact h1, hS _ _ _ _ ((Keeps.of_below hU).trans (Keeps.of_grown hg (by omega))) h2⟩
  · obtain rfl : j = k := by omega
    exact ⟨x, by rw [List.getElem?_append_right (by omega), hlen, Nat.sub_self]; rfl, hS _ _ _ _ (Keeps.of_grown hg (by omega)) hL⟩
theorem APart.cells {T : TypeId} {L : Nat → Value → World → Prop} {n g k : Nat} {w0 wr : World} (h : APart T L n g w0 k wr) : ∀ j, j < k → ∃ x, wr.cell? ⟨g, j, none⟩ = some x ∧ L j x wr := fun j hj => by
  obtain ⟨_, _, _, xs, ho, _, hF⟩ := h
  obtain ⟨x, h1, h2⟩ := hF j hj
  exact ⟨x, by rw [ho.cellAt j (by omega)]; exact h1, h2⟩
theorem new_cell {U : World} {v : Value} {ad : Addr} (h : U.cell? (ad.add 0) = some v) : ∀ j u, [v][j]? = some u → U.cell? (ad.add j) = some u := by
  intro j u hj
  cases j with
  | zero => simp at hj; subst hj; exact h
  | succ j => simp at hj
theorem infoP : (Try.prog.info? 120).map (fun i => (i.zero, i.size, i.bytes)) = some (some .nilIface, 1, 16) := by kernel_rfl
def LP (lo : Nat) (base : Int) (f : Nat → ByteArray) (kk : Nat → Int) (j : Nat) (x : Value) (W : World) : Prop := PartIs lo (kk j) (f j) (base + srcn f kk j) x W
def BR (g : Nat) (base : Int) (f : Nat → ByteArray) (kk : Nat → Int) (n : Nat) (w0 : World) (v u i : Value) (wr : World) : Prop :=
  ∃ k : Nat, i = .int .i64 k ∧ u = .int .u32 (base + srcn f kk k) ∧ v = .slice (some ⟨g, 0, none⟩) k n ∧ APart 120 (LP (g + 1) base f kk) n g w0 k wr
/-- the word at block b -/
def WordOf (base : Int) (f : Nat → ByteArray) (kk : Nat → Int) (n : Nat) (b : Nat) (W : World) : Prop :=
  ∃ g, W.cell? ⟨b, 0, none⟩ = some (.slice (some ⟨g, 0, none⟩) n n) ∧ ∀ j, j < n → ∃ x, W.cell? ⟨g, j, none⟩ = some x ∧ PartIs 0 (kk j) (f j) (base + srcn f kk j) x W
theorem PartIs.low {lo : Nat} {k : Int} {s : ByteArray} {o : Int} {x : Value} {W : World} (h : PartIs lo k s o x W) : PartIs 0 k s o x W := by
  rcases h with ⟨e, b, hl, h⟩ | ⟨e, b, hl, h⟩ | ⟨e, b, hl, h⟩
  · exact .inl ⟨e, b, Nat.zero_le _, h⟩
  · exact .inr (.inl ⟨e, b, Nat.zero_le _, h⟩)
  · exact .inr (.inr ⟨e, b, Nat.zero_le _, h⟩)
theorem WordOf.below {base : Int} {f : Nat → ByteArray} {kk : Nat → Int} {n b : Nat} {W w : World} (h : WordOf base f kk n b W) (hb : Below W.heap.size W w) : WordOf base f kk n b w := by
  obtain ⟨g, h1, h2⟩ := h
  refine ⟨g, cell_later hb h1, fun j hj => ?_⟩
  obtain ⟨x, hx, hp⟩ := h2 j hj
  exact ⟨x, cell_later hb hx, hp.keep (Keeps.of_below hb)⟩
set_option maxRecDepth 100000 in
set_option maxHeartbeats 4000000 in
theorem bw_any (base : Int) (A C : Option Addr) (n m : Nat) (f : Nat → ByteArray) (ks : Nat → Int) (w : World) (hb : 0 ≤ base ∧ base ≤ 1048576) (hs : StrsOf w A n f) (hr : RowOf .u8 w C m ks) (hk : ∀ i, i < m → 0 ≤ ks i ∧ ks i ≤ 255) (hn : n ≤ 65536) (ht : stot f n ≤ 1048576) :
    Calls Try.prog 36 #[.int .u32 base, .slice A n n, .slice C m m] w fun e w' => ∃ b, e = .returned (.pointer (some ⟨b, 0, none⟩)) ∧ WordOf base f (kd ks m) n b w' ∧ Below w.heap.size w w' := by
  have HS := Lib.hid hs
  have HR := Lib.hid hr
  have HK := Lib.hid hk
  clear hs hr hk
  obtain ⟨tP, hi, hz0, hz1, hz2⟩ := info_parts infoP
  have WI := Lib.hid (And.intro hi (And.intro hz1 hz2))
  have WZ := Lib.hid hz0
  clear hi hz0 hz1 hz2
  go_enter Try.func36, Try.ntmps36
  go_wp2_with (first | (at_make; (refine wpList_make_own _ rfl _ _ 37 rfl w.heap.size 120 tP .nilIface 1 Try.underlying37 WI.out.1 WZ.out WI.out.2.1 _ _ _ n rfl rfl rfl (by rw [WI.out.2.2]; omega) (by unfold maxLen; omega) (Nat.le_refl _) ?_); intro w3 hown hgrow))
  have hR : BR w.heap.size base f (kd ks m) n w (.slice (some ⟨w.heap.size, 0, none⟩) 0 n) (.int .u32 base) (.int .i64 0) w3 := ⟨0, rfl, by simp [srcn], rfl, APart.start hown hgrow⟩
  have HRel := Lib.hid hR
  clear hR hown hgrow
  go_loopw [7, 8, 9] (fun v u i wr => BR w.heap.size base f (kd ks m) n w v u i wr) (fun _ _ i _ => n - (intOf i).toNat)
  case atStart => exact HRel.out
  case round =>
    obtain ⟨k, rfl, rfl, rfl, hk, hB, hgz, xs, hown, hlen, hF⟩ := hrel
    clear HRel
    by_cases hlt : k < n
    · obtain ⟨p, rfl, c0⟩ := HS.out k hlt
      have c1 := cell_later hB c0
      have hle := stot_le f hlt
      have hsr := srcn_le f (kd ks m) k
      have HR2 := Lib.hid (HR.out.below hB)
      have HO := Lib.hid hown
      have HL := Lib.hid hlen
      have HB := Lib.hid hB
      have HF := Lib.hid hF
      clear hown hlen hB hF c0
      rcases kd_in ks m k (fun i hi => (HK.out i hi).1) with h | h | h
      · have HT := Lib.hid (srcn_zero f _ k h)
        have HH := Lib.hid h
        clear h
        go_wp2_with (first | (go_at_call 70; (with_reducible refine (pk_is _ _ _ ks 0 _ HR2.out HK.out (by omega) HH).mono ?_); rintro e w' ⟨rfl, rfl⟩) | (go_at_call 71; (with_reducible refine (mkp_at _ _ (by omega)).mono ?_); rintro e wM ⟨rfl, rfl⟩) | (at_builtin; (refine wpList_append_fits _ rfl _ _ 37 rfl w.heap.size 120 tP 1 Try.underlying37 WI.out.1 WI.out.2.1 w.heap.size k n xs rfl (HO.out.kept (grown_of (by go_grown) none) (.inr (by simp [Value.ownBlock]))) _ 1 1 [.iface 34 (.pointer (some ⟨wr.heap.size + 1 + 1 + 1 + 1, 0, none⟩))] rfl rfl (new_cell (by simp [Addr.add, go_sem])) (by simp [Value.oneCell']) (by omega) ?_); intro w4 hown4 hg4))
        go_roundw
        case rel => exact ⟨k + 1, by go_num, congrArg _ (by rw [HT.out]; omega), rfl, APart.step hlt rfl HB.out hgz HL.out HF.out (by go_grown) hown4 hg4 (fun j x W W' => PartIs.keep) (.inl ⟨HH.out, wr.heap.size + 1 + 1 + 1 + 1, by omega, rfl, by simp [go_sem], by simp [go_sem], by simp [go_sem], by simp [go_sem], by simp [go_sem]⟩)⟩
        case measure => simp [intOf]; omega
      · have HT := Lib.hid (srcn_two f _ k (.inl h))
        have HH := Lib.hid h
        clear h
        go_wp2_with (first | (go_at_call 70; (with_reducible refine (pk_is _ _ _ ks 1 _ HR2.out HK.out (by omega) HH).mono ?_); rintro e w' ⟨rfl, rfl⟩) | (go_at_call 71; (with_reducible refine (mkp_at _ _ (by omega)).mono ?_); rintro e wM ⟨rfl, rfl⟩) | (at_builtin; (refine wpList_append_fits _ rfl _ _ 37 rfl w.heap.size 120 tP 1 Try.underlying37 WI.out.1 WI.out.2.1 w.heap.size k n xs rfl (HO.out.kept (grown_of (by go_grown) none) (.inr (by simp [Value.ownBlock]))) _ 1 1 [.iface 113 (.pointer (some ⟨wr.heap.size + 1 + 1 + 1 + 1, 0, none⟩))] rfl rfl (new_cell (by simp [Addr.add, go_sem])) (by simp [Value.oneCell']) (by omega) ?_); intro w4 hown4 hg4))
        go_roundw
        case rel => exact ⟨k + 1, by go_num, congrArg _ (by rw [HT.out]; omega), rfl, APart.step hlt rfl HB.out hgz HL.out HF.out (by go_grown) hown4 hg4 (fun j x W W' => PartIs.keep) (.inr (.inl ⟨HH.out, wr.heap.size + 1 + 1 + 1 + 1, by omega, rfl, by simp [go_sem], by simp [go_sem], by simp [go_sem], by simp [go_sem]⟩))⟩
        case measure => simp [intOf]; omega
      · have HT := Lib.hid (srcn_two f _ k (.inr h))
        have HH := Lib.hid h
        clear h
        go_wp2_with (first | (go_at_call 70; (with_reducible refine (pk_is _ _ _ ks 2 _ HR2.out HK.out (by omega) HH).mono ?_); rintro e w' ⟨rfl, rfl⟩) | (go_at_call 71; (with_reducible refine (mkp_at _ _ (by omega)).mono ?_); rintro e wM ⟨rfl, rfl⟩) | (at_builtin; (refine wpList_append_fits _ rfl _ _ 37 rfl w.heap.size 120 tP 1 Try.underlying37 WI.out.1 WI.out.2.1 w.heap.size k n xs rfl (HO.out.kept (grown_of (by go_grown) none) (.inr (by simp [Value.ownBlock]))) _ 1 1 [.iface 116 (.pointer (some ⟨wr.heap.size + 1 + 1 + 1 + 1 + 1 + 1 + 1 + 1 + 1 + 1, 0, none⟩))] rfl rfl (new_cell (by simp [Addr.add, go_sem])) (by simp [Value.oneCell']) (by omega) ?_); intro w4 hown4 hg4))
        go_roundw
        case rel => exact ⟨k + 1, by go_num, congrArg _ (by rw [HT.out]; omega), rfl, APart.step hlt rfl HB.out hgz HL.out HF.out (by go_grown) hown4 hg4 (fun j x W W' => PartIs.keep) (.inr (.inr ⟨HH.out, wr.heap.size + 1 + 1 + 1 + 1 + 1 + 1 + 1 + 1 + 1 + 1, by omega, rfl, by simp [go_sem], by simp [go_sem], by simp [go_sem], by simp [go_sem]⟩))⟩
        case measure => simp [intOf]; omega
    · obtain rfl : k = n := by omega
      have AP : APart 120 (LP (w.heap.size + 1) base f (kd ks m)) k w.heap.size w k wr := ⟨hk, hB, hgz, xs, hown, hlen, hF⟩
      have HA := Lib.hid AP
      clear AP hown hlen hF hB
      go_wp2_with fail
      go_ret
      refine ⟨_, rfl, ⟨w.heap.size, by simp [go_sem], fun j hj => ?_⟩, ?_⟩
      · obtain ⟨x, h1, h2⟩ := HA.out.cells j hj
        have hal := (Below.refl wr.heap.size wr).alloc (Nat.le_refl _)
        exact ⟨x, cell_later (hal _) h1, (PartIs.low h2).keep (Keeps.of_below (hal _))⟩
      · have hB := HA.out.2.1
        exact hB.alloc hB.size _
end Go.Proofs.Ytimfajlnlfaffaa
