/- The walk of FnWordLastEndConcat: the Go text returns true. Conditions: none. -/
import Derived.Test.YtimfajlnlfaffaaSpan
import Derived.Test.YtimfajlnlfaffaaMore
namespace Go.Proofs.Ytimfajlnlfaffaa.fnWordLastEndConcat
open Go.RowKit
set_option linter.unusedVariables false

set_option maxRecDepth 100000 in
set_option maxHeartbeats 1000000 in
theorem zb_any (a0 a1 a2 a3 : Option Addr) (n0 n1 n2 n3 c0 c1 c2 c3 : Nat) (w : World) :
    Calls Try.prog 48 #[.slice a0 n0 c0, .slice a1 n1 c1, .slice a2 n2 c2, .slice a3 n3 c3] w (SomeBool w) := by
  go_enter Try.func48, Try.ntmps48
  go_wp2
  all_goals
    go_ret
    exact ⟨_, rfl, by go_grown⟩
set_option maxHeartbeats 400000 in
theorem mn_any (a b : Nat) (w : World) : Calls Try.prog 50 #[.int .i64 a, .int .i64 b] w fun e w' => e = .returned (.int .i64 (Nat.min a b : Nat)) ∧ w' = w := by
  by_cases h : (a : Int) < b
  all_goals
    go_enter Try.func50, Try.ntmps50
    go_wp2
    go_ret
    refine ⟨ret_int (congrArg _ ?_), rfl⟩
    simp only [Nat.min_def]
    split <;> omega
set_option maxHeartbeats 400000 in
theorem lw_any (o l : Int) (w : World) :
    Calls Try.prog 51 #[.agg #[.int .u32 o, .int .u32 l]] w fun e w' => ∃ b, e = .returned (.pointer (some ⟨b, 0, none⟩)) ∧ Span w' w.heap.size b 0 0 o l ∧ Below w.heap.size w w' := by
  go_enter Try.func51, Try.ntmps51
  go_wp2
  go_ret
  exact ⟨_, rfl, ⟨w.heap.size + 1 + 1, w.heap.size + 1, by omega, by omega, by omega, by simp [go_sem], by simp [go_sem], by simp [go_sem], by simp [go_sem], by simp [go_sem], by simp [go_sem]⟩, by go_grown⟩
theorem wl_any (g b n cap : Nat) (o lc : Int) (w : World) (hn : 0 < n) (hn2 : n ≤ 1048576) (hg : w.cell? ⟨g, n - 1, none⟩ = some (.pointer (some ⟨b, 0, none⟩))) (hX : PosIs Try.prog 38 b o lc w) :
    Calls Try.prog 53 #[.slice (some ⟨g, 0, none⟩) n cap] w fun e w' => e = .returned (.agg #[.int .u32 o, .int .u32 lc]) ∧ Below w.heap.size w w' := by
  have HG := Lib.hid hg
  have HX := Lib.hid hX
  clear hX hg
  go_enter Try.func53, Try.ntmps53
  go_wp2_with fail
  refine (wle_any g b n cap o lc _ hn hn2 (cell_alloc HG.out) (HX.out.grow (by go_grown))).mono ?_
  rintro e w1 ⟨rfl, hb1⟩
  obtain ⟨k0, k1, f0, f1, hB⟩ := slot_after hb1
  clear hb1
  go_wp2_with fail
  exact bodyPost_ret (v := .agg #[.int .u32 o, .int .u32 lc]) (by simp [results, Try.results53, go_sem, k0, k1]) rfl ⟨rfl, by go_grown⟩
theorem wl_none (w : World) (a : Option Addr) (cap : Nat) :
    Calls Try.prog 53 #[.slice a 0 cap] w fun e w' => e = .returned (.agg #[.int .u32 0, .int .u32 0]) ∧ Below w.heap.size w w' := by
  go_enter Try.func53, Try.ntmps53
  go_wp2_with fail
  refine (wle_none _ a cap).mono ?_
  rintro e w1 ⟨rfl, hb1⟩
  obtain ⟨k0, k1, f0, f1, hB⟩ := slot_after hb1
  clear hb1
  go_wp2_with fail
  exact bodyPost_ret (v := .agg #[.int .u32 0, .int .u32 0]) (by simp [results, Try.results53, go_sem, k0, k1]) rfl ⟨rfl, by go_grown⟩

theorem mn_is (a b r : Nat) (w : World) (h : Hid (r = Nat.min a b)) : Calls Try.prog 50 #[.int .i64 a, .int .i64 b] w fun e w' => e = .returned (.int .i64 r) ∧ w = w' := by rw [h.out]; exact (mn_any a b w).mono fun _ _ ⟨x, y⟩ => ⟨x, y.symm⟩
theorem IsRow.below {k : IntKind} {w w' : World} {a : Option Addr} {len cap : Nat} {zs : List Int} (h : IsRow k w a len cap zs) (hb : Below w.heap.size w w') : IsRow k w' a len cap zs := by
  rcases h with h | ⟨x, h1, h2, h3, h4, h5, h6⟩
  · exact .inl h
  · exact .inr ⟨x, h1, h2, h3, h4, fun i hi => cell_later hb (h5 i hi), h6⟩
def nth (zs : List Int) (k : Nat) : Int := zs.getD k 0
/-- a list of words that is being built in row g: k of n -/
def WRel (fO fL : Nat → Int) (n g : Nat) (w0 : World) (v i : Value) (wr : World) : Prop :=
  ∃ k xs, k ≤ n ∧ i = .int .i64 k ∧ v = .slice (some ⟨g, 0, none⟩) k n ∧ wr.ownsRow g 28 1 (.slice (some ⟨g, 0, none⟩) k n) k xs ∧ Below g w0 wr ∧ g < wr.heap.size ∧
    ∀ j, j < k → ∃ b, xs[j]? = some (.pointer (some ⟨b, 0, none⟩)) ∧ Span wr (g + 1) b 0 0 (fO j) (fL j)
theorem wrel_step {fO fL : Nat → Int} {n g k b : Nat} {xs : List Value} {w0 wr w3 w4 : World} {o : Obj} {v i : Value} (hk : k < n) (hi : i = .int .i64 ((k + 1 : Nat) : Int)) (hv : v = .slice (some ⟨g, 0, none⟩) (k + 1) n)
    (hlen : xs.length = k) (hB : Below g w0 wr) (hgz : g < wr.heap.size) (hg0 : g = w0.heap.size) (hS : ∀ j, j < k → ∃ b, xs[j]? = some (.pointer (some ⟨b, 0, none⟩)) ∧ Span wr (g + 1) b 0 0 (fO j) (fL j))
    (hB3 : Below wr.heap.size wr w3) (hN : Span w3 wr.heap.size b 0 0 (fO k) (fL k)) (hown : w4.ownsRow g 28 1 (.slice (some ⟨g, 0, none⟩) (k + 1) n) (k + 1) (xs ++ [.pointer (some ⟨b, 0, none⟩)])) (hg : (w3.alloc o).grownBy w4 (some g)) :
    WRel fO fL n g w0 v i w4 := by
  have hal : Below w3.heap.size w3 (w3.alloc o) := (Below.refl _ _).alloc (Nat.le_refl _) _
  have z3 := hB3.size
  have z4 := hg.size
  have zal : (w3.alloc o).heap.size = w3.heap.size + 1 := by simp
  refine ⟨k + 1, _, by omega, hi, hv, hown, ?_, by omega, ?_⟩
  · exact ((hB.trans (hB3.mono (by omega))).alloc (by omega) _).grown hg (by omega) (by intro g' e; injection e; omega)
  · intro j hj
    by_cases h : j < k
    · obtain ⟨b', h1, h2⟩ := hS j h
      exact ⟨b', by rw [List.getElem?_append_left (by omega)]; exact h1, ((h2.below hB3).below hal).grown hg (by omega)⟩
    · obtain rfl : j = k := by omega
      exact ⟨b, by rw [List.getElem?_append_right (by omega), hlen, Nat.sub_self]; rfl, ((hN.less (by omega)).below hal).grown hg (by omega)⟩
/-- the list, built -/
def Words (fO fL : Nat → Int) (n g : Nat) (W : World) : Prop := ∀ j, j < n → ∃ b, W.cell? ⟨g, j, none⟩ = some (.pointer (some ⟨b, 0, none⟩)) ∧ PosIs Try.prog 38 b (fO j) (fL j) W
theorem Words.below {fO fL : Nat → Int} {n g : Nat} {W w : World} (h : Words fO fL n g W) (hb : Below W.heap.size W w) : Words fO fL n g w := fun j hj => by
  obtain ⟨b, h1, h2⟩ := h j hj
  exact ⟨b, cell_later hb h1, h2.grow hb⟩
theorem words_of {fO fL : Nat → Int} {n g : Nat} {xs : List Value} {W : World} (ho : W.ownsRow g 28 1 (.slice (some ⟨g, 0, none⟩) n n) n xs) (hS : ∀ j, j < n → ∃ b, xs[j]? = some (.pointer (some ⟨b, 0, none⟩)) ∧ Span W (g + 1) b 0 0 (fO j) (fL j)) : Words fO fL n g W := fun j hj => by
  obtain ⟨b, h1, h2⟩ := hS j hj
  exact ⟨b, by rw [ho.cellAt j (by omega)]; exact h1, h2.end_⟩
/-- the joined list: the first k cells stand in row p, then those of row q -/
def Join (p q na nb : Nat) (W : World) (xs : List Value) (k : Nat) : Prop := ∀ j, j < k → xs[j]? = if j < na then W.cell? ⟨p, j, none⟩ else W.cell? ⟨q, j - na, none⟩
theorem join_step {p q na nb : Nat} {W : World} {xs : List Value} {k : Nat} {v : Value} (h : Join p q na nb W xs k) (hl : xs.length = k) (hv : some v = if k < na then W.cell? ⟨p, k, none⟩ else W.cell? ⟨q, k - na, none⟩) : Join p q na nb W (xs ++ [v]) (k + 1) := fun j hj => by
  by_cases e : j < k
  · rw [List.getElem?_append_left (by omega)]; exact h j e
  · obtain rfl : j = k := by omega
    rw [List.getElem?_append_right (by omega), hl, Nat.sub_self]; exact hv
def J1 (p q na nb n g : Nat) (w0 : World) (v i : Value) (wr : World) : Prop :=
  ∃ k xs, k ≤ na ∧ i = .int .i64 k ∧ v = .slice (some ⟨g, 0, none⟩) k n ∧ wr.ownsRow g 28 1 (.slice (some ⟨g, 0, none⟩) k n) k xs ∧ Below g w0 wr ∧ g < wr.heap.size ∧ Join p q na nb w0 xs k
def J2 (p q na nb n g : Nat) (w0 : World) (v i : Value) (wr : World) : Prop :=
  ∃ k xs, k ≤ nb ∧ i = .int .i64 k ∧ v = .slice (some ⟨g, 0, none⟩) (na + k) n ∧ wr.ownsRow g 28 1 (.slice (some ⟨g, 0, none⟩) (na + k) n) (na + k) xs ∧ Below g w0 wr ∧ g < wr.heap.size ∧ Join p q na nb w0 xs (na + k)
theorem grow_step {g : Nat} {w0 wr w4 : World} {o : Obj} (hg0 : g = w0.heap.size) (hgz : g < wr.heap.size) (hB : Below g w0 wr) (hg : (wr.alloc o).grownBy w4 (some g)) : Below g w0 w4 ∧ g < w4.heap.size := by
  have z4 := hg.size
  have zal : (wr.alloc o).heap.size = wr.heap.size + 1 := by simp
  exact ⟨(hB.alloc (by omega) _).grown hg (by omega) (by intro g' e; injection e; omega), by omega⟩
theorem infoW : (Try.prog.info? 28).map (fun i => (i.zero, i.size, i.bytes)) = some (some (.pointer none), 1, 8) := by kernel_rfl
/-- two cells, behind a world that only grew, and behind an append elsewhere -/
theorem keepB {wr U : World} {p q i j : Nat} {x y : Value} (hp : wr.cell? ⟨p, i, none⟩ = some x) (hq : wr.cell? ⟨q, j, none⟩ = some y) (hb : Below wr.heap.size wr U) : U.cell? ⟨p, i, none⟩ = some x ∧ U.cell? ⟨q, j, none⟩ = some y := ⟨cell_later hb hp, cell_later hb hq⟩
theorem keepG {wr U V : World} {p q i j g : Nat} {x y : Value} (hp : wr.cell? ⟨p, i, none⟩ = some x) (hq : wr.cell? ⟨q, j, none⟩ = some y) (hg : U.grownBy V (some g)) (hpg : p ≠ g) (hqg : q ≠ g) (hb : Below wr.heap.size wr U) : V.cell? ⟨p, i, none⟩ = some x ∧ V.cell? ⟨q, j, none⟩ = some y :=
  ⟨hg.cell (cell_later hb hp) (by simpa using hpg), hg.cell (cell_later hb hq) (by simpa using hqg)⟩

theorem keep3 {V U : World} {B p l : Nat} {x y z : Value} (h0 : V.cell? ⟨B, 0, none⟩ = some x) (h1 : V.cell? ⟨B, 1, none⟩ = some y) (h2 : V.cell? ⟨p, l, none⟩ = some z) (hb : Below V.heap.size V U) :
    Below V.heap.size V U ∧ U.cell? ⟨B, 0, none⟩ = some x ∧ U.cell? ⟨B, 1, none⟩ = some y ∧ U.cell? ⟨p, l, none⟩ = some z := ⟨hb, cell_later hb h0, cell_later hb h1, cell_later hb h2⟩
theorem keep4 {V U : World} {B : Nat} {x y : Value} (h0 : V.cell? ⟨B, 0, none⟩ = some x) (h1 : V.cell? ⟨B, 1, none⟩ = some y) (hb : Below V.heap.size V U) :
    Below V.heap.size V U ∧ U.cell? ⟨B, 0, none⟩ = some x ∧ U.cell? ⟨B, 1, none⟩ = some y := ⟨hb, cell_later hb h0, cell_later hb h1⟩
set_option maxRecDepth 100000 in
set_option maxHeartbeats 4000000 in
theorem main (a0 a1 a2 a3 : Option Addr) (n0 n1 n2 n3 c0 c1 c2 c3 na nb : Nat) (z0 z1 z2 z3 : List Int) (w : World) (i0 : IsRow .u32 w a0 n0 c0 z0) (i1 : IsRow .u32 w a1 n1 c1 z1) (i2 : IsRow .u32 w a2 n2 c2 z2) (i3 : IsRow .u32 w a3 n3 c3 z3)
    (l0 : n0 ≤ 65536) (l1 : n1 ≤ 65536) (l2 : n2 ≤ 65536) (l3 : n3 ≤ 65536) (EA : Hid (na = Nat.min n0 n1)) (EB : Hid (nb = Nat.min n2 n3)) :
    Calls Try.prog 9 #[.slice a0 n0 c0, .slice a1 n1 c1, .slice a2 n2 c2, .slice a3 n3 c3] w fun e w' => e = .returned (.bool true) ∧ Below w.heap.size w w' := by
  have I0 := Lib.hid i0
  have I1 := Lib.hid i1
  have I2 := Lib.hid i2
  have I3 := Lib.hid i3
  clear i0 i1 i2 i3
  have m0 : na ≤ n0 ∧ na ≤ n1 := by rw [EA.out]; exact ⟨Nat.min_le_left _ _, Nat.min_le_right _ _⟩
  have m1 : nb ≤ n2 ∧ nb ≤ n3 := by rw [EB.out]; exact ⟨Nat.min_le_left _ _, Nat.min_le_right _ _⟩
  obtain ⟨t0, hi, hz0, hz1, hz2⟩ := info_parts infoW
  have HI := Lib.hid (And.intro hi (And.intro hz1 hz2))
  have HZ := Lib.hid hz0
  clear hi hz0 hz1 hz2
  go_enter Try.func9, Try.ntmps9
  go_wp2_with fail
  refine (zb_any _ _ _ _ _ _ _ _ _ _ _ _ _).mono ?_
  rintro e w1 ⟨b, rfl, hb1⟩
  cases b
  · go_wp2_with fail
    go_ret
    exact ⟨rfl, hb1⟩
  have h1 := Lib.hid hb1
  clear hb1
  go_wp2_with fail
  refine (cl32_row _ _ _ z0 _ (IsRow.below I0.out h1.out) (by omega)).mono ?_
  rintro e w2 ⟨A0, rfl, r0, hb2⟩
  have h2 := Lib.hid (below_next h1.out hb2)
  have R0 := Lib.hid (show RowOf .u32 _ _ _ (nth z0) from r0)
  clear r0 hb2 h1 I0
  go_wp2_with fail
  refine (cl32_row _ _ _ z1 _ (IsRow.below I1.out h2.out) (by omega)).mono ?_
  rintro e w3 ⟨A1, rfl, r1, hb3⟩
  have h3 := Lib.hid (below_next h2.out hb3)
  have R0 := Lib.hid (R0.out.below hb3)
  have R1 := Lib.hid (show RowOf .u32 _ _ _ (nth z1) from r1)
  clear r1 hb3 h2 I1
  go_wp2_with fail
  refine (cl32_row _ _ _ z2 _ (IsRow.below I2.out h3.out) (by omega)).mono ?_
  rintro e w4 ⟨A2, rfl, r2, hb4⟩
  have h4 := Lib.hid (below_next h3.out hb4)
  have R0 := Lib.hid (R0.out.below hb4)
  have R1 := Lib.hid (R1.out.below hb4)
  have R2 := Lib.hid (show RowOf .u32 _ _ _ (nth z2) from r2)
  clear r2 hb4 h3 I2
  go_wp2_with fail
  refine (cl32_row _ _ _ z3 _ (IsRow.below I3.out h4.out) (by omega)).mono ?_
  rintro e w5 ⟨A3, rfl, r3, hb5⟩
  have h5 := Lib.hid (below_next h4.out hb5)
  have R0 := Lib.hid (R0.out.below hb5)
  have R1 := Lib.hid (R1.out.below hb5)
  have R2 := Lib.hid (R2.out.below hb5)
  have R3 := Lib.hid (show RowOf .u32 _ _ _ (nth z3) from r3)
  clear r3 hb5 h4 I3
  go_wp2_with (first | (go_at_call 50; (with_reducible refine (mn_is _ _ na _ EA).mono ?_); rintro e w' ⟨rfl, rfl⟩) | (go_at_call 50; (with_reducible refine (mn_is _ _ nb _ EB).mono ?_); rintro e w' ⟨rfl, rfl⟩) | (at_make; (refine wpList_make_own _ rfl _ _ 85 rfl w5.heap.size 28 t0 (.pointer none) 1 Try.underlying85 HI.out.1 HZ.out HI.out.2.1 _ _ _ na rfl rfl rfl (by rw [HI.out.2.2]; omega) (by unfold maxLen; omega) (Nat.le_refl _) ?_); intro w6 hown hgrow))
  have hR : WRel (nth z0) (nth z1) na w5.heap.size w5 (.slice (some ⟨w5.heap.size, 0, none⟩) 0 na) (.int .i64 0) w6 := ⟨0, [], Nat.zero_le _, rfl, rfl, hown, (Below.refl _ _).grown hgrow (Nat.le_refl _) (by simp), (hown.lt w5.heap.size rfl).2, fun j hj => absurd hj (by omega)⟩
  have HR := Lib.hid hR
  clear hR hown hgrow
  go_loopw [11, 12] (fun v i wr => WRel (nth z0) (nth z1) na w5.heap.size w5 v i wr) (fun _ i _ => na - (intOf i).toNat)
  case atStart => exact HR.out
  case round =>
    obtain ⟨k, xs, hk, rfl, rfl, hown, hB, hgz, hS⟩ := hrel
    have HS := Lib.hid hS
    clear hS HR
    by_cases hlt : k < na
    · obtain ⟨p, rfl, hp⟩ := R0.out k (by omega)
      obtain ⟨q, rfl, hq⟩ := R1.out k (by omega)
      have hpg : p ≠ w5.heap.size := Nat.ne_of_lt (World.block_lt_of_cell? _ _ hp)
      have hqg : q ≠ w5.heap.size := Nat.ne_of_lt (World.block_lt_of_cell? _ _ hq)
      have hp := cell_later hB hp
      have hq := cell_later hB hq
      have CP := Lib.hid hp
      have CQ := Lib.hid hq
      have HP := Lib.hid (And.intro hpg hqg)
      have hlen : xs.length = k := by have := hown.1; omega
      have HL := Lib.hid hlen
      have HB := Lib.hid hB
      have HO := Lib.hid hown
      have b1 : (0 : Int) ≤ (k : Int) := by omega
      have b2 : (k : Int) < (n0 : Int) := by omega
      have b3 : (k : Int) < (n1 : Int) := by omega
      clear hpg hqg hlen hB hown
      go_wp2_with fail
      go_region_held3 (fun U9 => U9.cell? ⟨p, k, none⟩ = some (.int .u32 (nth z0 k)) ∧ U9.cell? ⟨q, k, none⟩ = some (.int .u32 (nth z1 k)))
        (first | (refine keepG CP.out CQ.out hg8 HP.out.1 HP.out.2 ?_; go_grown; done) | (refine keepB CP.out CQ.out ?_; go_grown; done))
        (first | (go_at_call 52; go_in) | (go_at_call 51; refine (lw_any _ _ _).mono ?_; rintro e w7 ⟨b, rfl, hN, hb7⟩; have hB7 : Below wr.heap.size wr w7 := below_next (by go_grown) hb7; have hN := Lib.hid (hN.less (lo' := wr.heap.size) (by simp)); have hown7 := HO.out.kept (grown_of hB7 none) (.inr (by simp [Value.ownBlock])); have z7 := hB7.size; clear hb7) | (refine step_append_fits (by rfl) _ _ 85 (by rfl) w5.heap.size 28 t0 1 Try.underlying85 HI.out.1 HI.out.2.1 w5.heap.size k na xs (by rfl) (hown7.alloc _) ⟨w7.heap.size, 0, none⟩ 1 1 [.pointer (some ⟨b, 0, none⟩)] (by rfl) rfl one_new (by simp [Value.oneCell']) (by omega) ?_; intro w8 hown8 hg8))
      go_wp2
      go_roundw
      case rel => exact wrel_step hlt (by go_num) rfl HL.out HB.out hgz rfl HS.out hB7 hN.out hown8 hg8
      case measure => simp [intOf]; omega
    · obtain rfl : k = na := by omega
      have wA := words_of hown HS.out
      have WA := Lib.hid wA
      have H6 := Lib.hid (h5.out.trans (hB.mono h5.out.size))
      have R2 := Lib.hid (R2.out.below hB)
      have R3 := Lib.hid (R3.out.below hB)
      clear wA HS hown h5 hB R0 R1 EA hlt
      go_wp2_with (first | (at_make; (refine wpList_make_own _ rfl _ _ 85 rfl wr.heap.size 28 t0 (.pointer none) 1 Try.underlying85 HI.out.1 HZ.out HI.out.2.1 _ _ _ nb rfl rfl rfl (by rw [HI.out.2.2]; omega) (by unfold maxLen; omega) (Nat.le_refl _) ?_); intro w9 hown hgrow))
      have hR : WRel (nth z2) (nth z3) nb wr.heap.size wr (.slice (some ⟨wr.heap.size, 0, none⟩) 0 nb) (.int .i64 0) w9 := ⟨0, [], Nat.zero_le _, rfl, rfl, hown, (Below.refl _ _).grown hgrow (Nat.le_refl _) (by simp), (hown.lt wr.heap.size rfl).2, fun j hj => absurd hj (by omega)⟩
      have HR := Lib.hid hR
      clear hR hown hgrow
      obtain ⟨wA, rfl⟩ : ∃ wA : World, wA = wr := ⟨_, rfl⟩
      go_loopw [13, 14] (fun v i wr => WRel (nth z2) (nth z3) nb wA.heap.size wA v i wr) (fun _ i _ => nb - (intOf i).toNat)
      case atStart => exact HR.out
      case round =>
        obtain ⟨j, xs, hj, rfl, rfl, hown, hB, hgz, hS⟩ := hrel
        have HS := Lib.hid hS
        clear hS HR
        by_cases hlt : j < nb
        · obtain ⟨p, rfl, hp⟩ := R2.out j (by omega)
          obtain ⟨q, rfl, hq⟩ := R3.out j (by omega)
          have hpg : p ≠ wA.heap.size := Nat.ne_of_lt (World.block_lt_of_cell? _ _ hp)
          have hqg : q ≠ wA.heap.size := Nat.ne_of_lt (World.block_lt_of_cell? _ _ hq)
          have hp := cell_later hB hp
          have hq := cell_later hB hq
          have CP := Lib.hid hp
          have CQ := Lib.hid hq
          have HP := Lib.hid (And.intro hpg hqg)
          have hlen : xs.length = j := by have := hown.1; omega
          have HL := Lib.hid hlen
          have HB := Lib.hid hB
          have HO := Lib.hid hown
          have b1 : (0 : Int) ≤ (j : Int) := by omega
          have b2 : (j : Int) < (n2 : Int) := by omega
          have b3 : (j : Int) < (n3 : Int) := by omega
          clear hpg hqg hlen hB hown
          go_wp2_with fail
          go_region_held3 (fun U9 => U9.cell? ⟨p, j, none⟩ = some (.int .u32 (nth z2 j)) ∧ U9.cell? ⟨q, j, none⟩ = some (.int .u32 (nth z3 j)))
            (first | (refine keepG CP.out CQ.out hg8 HP.out.1 HP.out.2 ?_; go_grown; done) | (refine keepB CP.out CQ.out ?_; go_grown; done))
            (first | (go_at_call 52; go_in) | (go_at_call 51; refine (lw_any _ _ _).mono ?_; rintro e w7 ⟨b, rfl, hN, hb7⟩; have hB7 : Below wr.heap.size wr w7 := below_next (by go_grown) hb7; have hN := Lib.hid (hN.less (lo' := wr.heap.size) (by simp)); have hown7 := HO.out.kept (grown_of hB7 none) (.inr (by simp [Value.ownBlock])); have z7 := hB7.size; clear hb7) | (refine step_append_fits (by rfl) _ _ 85 (by rfl) wA.heap.size 28 t0 1 Try.underlying85 HI.out.1 HI.out.2.1 wA.heap.size j nb xs (by rfl) (hown7.alloc _) ⟨w7.heap.size, 0, none⟩ 1 1 [.pointer (some ⟨b, 0, none⟩)] (by rfl) rfl one_new (by simp [Value.oneCell']) (by omega) ?_; intro w8 hown8 hg8))
          go_wp2
          go_roundw
          case rel => exact wrel_step hlt (by go_num) rfl HL.out HB.out hgz rfl HS.out hB7 hN.out hown8 hg8
          case measure => simp [intOf]; omega
        · obtain rfl : j = nb := by omega
          have wB := words_of hown HS.out
          have WB := Lib.hid wB
          have WA := Lib.hid (WA.out.below hB)
          have H7 := Lib.hid (H6.out.trans (hB.mono H6.out.size))
          clear wB HS hown hB H6 R2 R3 EB hlt
          have v1 := Lib.hid (show (k : Int) + (j : Int) = ((k + j : Nat) : Int) by omega)
          go_wp2_with (first | (at_make; (refine wpList_make_own _ rfl _ _ 85 rfl wr.heap.size 28 t0 (.pointer none) 1 Try.underlying85 HI.out.1 HZ.out HI.out.2.1 _ _ _ (k + j) rfl rfl v1.out (by rw [HI.out.2.2]; omega) (by unfold maxLen; omega) (Nat.le_refl _) ?_); intro w9 hown hgrow))
          have hR : J1 w5.heap.size wA.heap.size k j (k + j) wr.heap.size wr (.slice (some ⟨wr.heap.size, 0, none⟩) 0 (k + j)) (.int .i64 0) w9 := ⟨0, [], Nat.zero_le _, rfl, rfl, hown, (Below.refl _ _).grown hgrow (Nat.le_refl _) (by simp), (hown.lt wr.heap.size rfl).2, fun i hi => absurd hi (by omega)⟩
          have HR := Lib.hid hR
          clear hR hown hgrow
          obtain ⟨wB, rfl⟩ : ∃ wB : World, wB = wr := ⟨_, rfl⟩
          go_loopw [15, 16] (fun v i wr => J1 w5.heap.size wA.heap.size k j (k + j) wB.heap.size wB v i wr) (fun _ i _ => k - (intOf i).toNat)
          case atStart => exact HR.out
          case round =>
            obtain ⟨i, xs, hi, rfl, rfl, hown, hB, hgz, hS⟩ := hrel
            have HS := Lib.hid hS
            clear hS HR
            by_cases hlt : i < k
            · obtain ⟨b, hp, hX⟩ := WA.out i hlt
              have CW := Lib.hid hp
              have hp := cell_later hB hp
              have hlen : xs.length = i := by have := hown.1; omega
              have HL := Lib.hid hlen
              have HB := Lib.hid hB
              have HO := Lib.hid hown
              clear hlen hB hX hown
              go_wp2_with (first | (at_builtin; (refine wpList_append_fits _ rfl _ _ 85 rfl wB.heap.size 28 t0 1 Try.underlying85 HI.out.1 HI.out.2.1 wB.heap.size i (k + j) xs rfl (HO.out.alloc _) ⟨wr.heap.size, 0, none⟩ 1 1 [.pointer (some ⟨b, 0, none⟩)] rfl rfl one_new (by simp [Value.oneCell']) (by omega) ?_); intro w4 hown4 hg4))
              go_roundw
              case rel =>
                obtain ⟨g1, g2⟩ := grow_step rfl hgz HB.out hg4
                exact ⟨i + 1, _, by omega, by go_num, rfl, hown4, g1, g2, join_step HS.out HL.out (by rw [if_pos hlt]; exact CW.out.symm)⟩
              case measure => simp [intOf]; omega
            · obtain rfl : i = k := by omega
              have hR : J2 w5.heap.size wA.heap.size i j (i + j) wB.heap.size wB (.slice (some ⟨wB.heap.size, 0, none⟩) i (i + j)) (.int .i64 0) wr := ⟨0, xs, Nat.zero_le _, rfl, rfl, hown, hB, hgz, HS.out⟩
              have HR := Lib.hid hR
              clear hR hown hB hgz HS
              go_wp2_with fail
              go_loopw [15, 17] (fun v i' wr => J2 w5.heap.size wA.heap.size i j (i + j) wB.heap.size wB v i' wr) (fun _ i' _ => j - (intOf i').toNat)
              case atStart => exact HR.out
              case round =>
                obtain ⟨l, xs, hl, rfl, rfl, hown, hB, hgz, hS⟩ := hrel
                have HS := Lib.hid hS
                clear hS HR
                by_cases hlt : l < j
                · obtain ⟨b, hp, hX⟩ := WB.out l hlt
                  have CW := Lib.hid hp
                  have hp := cell_later hB hp
                  have hlen : xs.length = i + l := by have := hown.1; omega
                  have HL := Lib.hid hlen
                  have HB := Lib.hid hB
                  have HO := Lib.hid hown
                  clear hlen hB hX hown
                  go_wp2_with (first | (at_builtin; (refine wpList_append_fits _ rfl _ _ 85 rfl wB.heap.size 28 t0 1 Try.underlying85 HI.out.1 HI.out.2.1 wB.heap.size (i + l) (i + j) xs rfl (HO.out.alloc _) ⟨wr.heap.size, 0, none⟩ 1 1 [.pointer (some ⟨b, 0, none⟩)] rfl rfl one_new (by simp [Value.oneCell']) (by omega) ?_); intro w4 hown4 hg4))
                  go_roundw
                  case rel =>
                    obtain ⟨g1, g2⟩ := grow_step rfl hgz HB.out hg4
                    have hj : some (Value.pointer (some ⟨b, 0, none⟩)) = if i + l < i then wB.cell? ⟨w5.heap.size, i + l, none⟩ else wB.cell? ⟨wA.heap.size, i + l - i, none⟩ := by
                      rw [if_neg (by omega), show i + l - i = l by omega]; exact CW.out.symm
                    exact ⟨l + 1, _, by omega, by go_num, rfl, hown4, g1, g2, join_step HS.out HL.out hj⟩
                  case measure => simp [intOf]; omega
                · obtain rfl : l = j := by omega
                  by_cases hn : 0 < l
                  · obtain ⟨b, hp, hX⟩ := WB.out (l - 1) (by omega)
                    have hq : wr.cell? ⟨wB.heap.size, i + l - 1, none⟩ = some (.pointer (some ⟨b, 0, none⟩)) := by
                      rw [hown.cellAt _ (by omega), HS.out (i + l - 1) (by omega), if_neg (by omega), show i + l - 1 - i = l - 1 by omega]
                      exact hp
                    have hp := cell_later hB hp
                    have hX := hX.grow hB
                    have HP := Lib.hid hp
                    have HQ := Lib.hid hq
                    have HX := Lib.hid hX
                    have H8 := Lib.hid (H7.out.trans (hB.mono H7.out.size))
                    clear hp hq hX hown hB HS WA WB H7 v1
                    go_wp2_with fail
                    refine (wl_any wB.heap.size b (i + l) (i + l) _ _ _ (by omega) (by omega) HQ.out HX.out).mono ?_
                    rintro e w10 ⟨rfl, hb10⟩
                    have H9 := Lib.hid (below_next H8.out hb10)
                    have HX := Lib.hid (HX.out.grow hb10)
                    have HP := Lib.hid (cell_later hb10 HP.out)
                    clear hb10 HQ H8
                    go_wp2_with fail
                    refine wp_gen (fun V => Below w.heap.size w V ∧ V.cell? ⟨w10.heap.size, 0, none⟩ = some (.int .u32 (nth z2 (l - 1))) ∧ V.cell? ⟨w10.heap.size, 1, none⟩ = some (.int .u32 (nth z3 (l - 1))) ∧ V.cell? ⟨wA.heap.size, l - 1, none⟩ = some (.pointer (some ⟨b, 0, none⟩)) ∧ PosIs Try.prog 38 b (nth z2 (l - 1)) (nth z3 (l - 1)) V) ⟨below_next H9.out (by go_grown), by simp [go_sem], by simp [go_sem], cell_alloc HP.out, HX.out.grow (by go_grown)⟩ ?_
                    rintro V ⟨hV, k0, k1, k2, kX⟩
                    have K0 := Lib.hid k0
                    have K1 := Lib.hid k1
                    have K2 := Lib.hid k2
                    have KX := Lib.hid kX
                    have HV := Lib.hid hV
                    clear H9 HX HP kX hV
                    have v1 := IntWalk.i64_in ((l : Int) - 1) (by omega)
                    have v2 : (0 : Int) ≤ (l : Int) - 1 := by omega
                    have v3 : ((l : Int) - 1).toNat = l - 1 := by omega
                    have v4 : (l : Int) - 1 < (l : Int) := by omega
                    have v5 : l - 1 < l := by omega
                    have v6 : 1 ≤ l := hn
                    have v7 : (1 : Int) ≤ (l : Int) := by omega
                    go_region_held3 (fun U9 => Below V.heap.size V U9 ∧ U9.cell? ⟨w10.heap.size, 0, none⟩ = some (.int .u32 (nth z2 (l - 1))) ∧ U9.cell? ⟨w10.heap.size, 1, none⟩ = some (.int .u32 (nth z3 (l - 1))) ∧ U9.cell? ⟨wA.heap.size, l - 1, none⟩ = some (.pointer (some ⟨b, 0, none⟩)))
                      (first | (refine keep3 K0.out K1.out K2.out ?_; go_grown; done))
                      (first | (go_at_call 53; refine (wl_any wA.heap.size b l l _ _ _ hn (by omega) (cell_later (And.left (by assumption)) K2.out) (KX.out.grow (And.left (by assumption)))).mono ?_; rintro e wN ⟨rfl, hbN⟩; have hBN := below_next (And.left (by assumption)) hbN; clear hbN) | (go_at_call 38; refine (KX.out _ (And.left (by assumption))).mono ?_; rintro e wN ⟨rfl, hbN⟩; have hBN := below_next (And.left (by assumption)) hbN; clear hbN))
                    go_wp2_with fail
                    go_ret
                    exact ⟨rfl, below_next HV.out hBN⟩
                  · obtain rfl : l = 0 := by omega
                    rw [Nat.add_zero] at hown HS
                    have H8 := Lib.hid (H7.out.trans (hB.mono H7.out.size))
                    by_cases hi0 : 0 < i
                    · obtain ⟨b, hp, hX⟩ := WA.out (i - 1) (by omega)
                      have hq : wr.cell? ⟨wB.heap.size, i - 1, none⟩ = some (.pointer (some ⟨b, 0, none⟩)) := by
                        rw [hown.cellAt _ (by omega), HS.out (i - 1) (by omega), if_pos (by omega)]
                        exact hp
                      have hp := cell_later hB hp
                      have hX := hX.grow hB
                      have HP := Lib.hid hp
                      have HQ := Lib.hid hq
                      have HX := Lib.hid hX
                      clear hp hq hX hown hB HS WA WB H7 v1
                      go_wp2_with fail
                      refine (wl_any wB.heap.size b i i _ _ _ (by omega) (by omega) HQ.out HX.out).mono ?_
                      rintro e w10 ⟨rfl, hb10⟩
                      have H9 := Lib.hid (below_next H8.out hb10)
                      have HX := Lib.hid (HX.out.grow hb10)
                      have HP := Lib.hid (cell_later hb10 HP.out)
                      clear hb10 HQ H8
                      go_wp2_with fail
                      refine wp_gen (fun V => Below w.heap.size w V ∧ V.cell? ⟨w10.heap.size, 0, none⟩ = some (.int .u32 (nth z0 (i - 1))) ∧ V.cell? ⟨w10.heap.size, 1, none⟩ = some (.int .u32 (nth z1 (i - 1))) ∧ V.cell? ⟨w5.heap.size, i - 1, none⟩ = some (.pointer (some ⟨b, 0, none⟩)) ∧ PosIs Try.prog 38 b (nth z0 (i - 1)) (nth z1 (i - 1)) V) ⟨below_next H9.out (by go_grown), by simp [go_sem], by simp [go_sem], cell_alloc HP.out, HX.out.grow (by go_grown)⟩ ?_
                      rintro V ⟨hV, k0, k1, k2, kX⟩
                      have K0 := Lib.hid k0
                      have K1 := Lib.hid k1
                      have K2 := Lib.hid k2
                      have KX := Lib.hid kX
                      have HV := Lib.hid hV
                      clear H9 HX HP kX hV k2
                      go_region_held3 (fun U9 => Below V.heap.size V U9 ∧ U9.cell? ⟨w10.heap.size, 0, none⟩ = some (.int .u32 (nth z0 (i - 1))) ∧ U9.cell? ⟨w10.heap.size, 1, none⟩ = some (.int .u32 (nth z1 (i - 1))))
                        (first | (refine keep4 K0.out K1.out ?_; go_grown; done))
                        (first | (go_at_call 53; refine (wl_any w5.heap.size b i i _ _ _ hi0 (by omega) (cell_later (And.left (by assumption)) K2.out) (KX.out.grow (And.left (by assumption)))).mono ?_; rintro e wN ⟨rfl, hbN⟩; have hBN := below_next (And.left (by assumption)) hbN; clear hbN))
                      go_wp2_with fail
                      go_ret
                      exact ⟨rfl, below_next HV.out hBN⟩
                    · obtain rfl : i = 0 := by omega
                      clear hown hB HS WA WB H7 v1
                      go_wp2_with fail
                      refine (wl_none _ _ _).mono ?_
                      rintro e w10 ⟨rfl, hb10⟩
                      have H9 := Lib.hid (below_next H8.out hb10)
                      clear hb10 H8
                      go_wp2_with fail
                      refine wp_gen (fun V => Below w.heap.size w V ∧ V.cell? ⟨w10.heap.size, 0, none⟩ = some (.int .u32 0) ∧ V.cell? ⟨w10.heap.size, 1, none⟩ = some (.int .u32 0)) ⟨below_next H9.out (by go_grown), by simp [go_sem], by simp [go_sem]⟩ ?_
                      rintro V ⟨hV, k0, k1⟩
                      have K0 := Lib.hid k0
                      have K1 := Lib.hid k1
                      have HV := Lib.hid hV
                      clear H9 hV
                      go_region_held3 (fun U9 => Below V.heap.size V U9 ∧ U9.cell? ⟨w10.heap.size, 0, none⟩ = some (.int .u32 0) ∧ U9.cell? ⟨w10.heap.size, 1, none⟩ = some (.int .u32 0))
                        (first | (refine keep4 K0.out K1.out ?_; go_grown; done))
                        (first | (go_at_call 53; refine (wl_none _ _ _).mono ?_; rintro e wN ⟨rfl, hbN⟩; have hBN := below_next (And.left (by assumption)) hbN; clear hbN))
                      go_wp2_with fail
                      go_ret
                      exact ⟨rfl, below_next HV.out hBN⟩

set_option maxRecDepth 100000 in
set_option maxHeartbeats 1000000 in
theorem wide (a0 a1 a2 a3 : Option Addr) (n0 n1 n2 n3 c0 c1 c2 c3 : Nat) (w : World) (h : 65536 < n0 ∨ (n0 ≤ 65536 ∧ 65536 < n1) ∨ (n0 ≤ 65536 ∧ n1 ≤ 65536 ∧ 65536 < n2) ∨ (n0 ≤ 65536 ∧ n1 ≤ 65536 ∧ n2 ≤ 65536 ∧ 65536 < n3)) :
    Calls Try.prog 9 #[.slice a0 n0 c0, .slice a1 n1 c1, .slice a2 n2 c2, .slice a3 n3 c3] w fun e w' => e = .returned (.bool true) ∧ Below w.heap.size w w' := by
  rcases h with h | ⟨h0, h⟩ | ⟨h0, h1, h⟩ | ⟨h0, h1, h2, h⟩
  all_goals
    go_enter Try.func9, Try.ntmps9
    go_wp2_with fail
    refine (zb_any _ _ _ _ _ _ _ _ _ _ _ _ _).mono ?_
    rintro e w1 ⟨b, rfl, hb1⟩
    cases b
    all_goals
      go_wp2_with fail
      go_ret
      exact ⟨rfl, hb1⟩

theorem walk (a0 : Option Addr) (len0 cap0 : Nat) (z0 : List Int) (a1 : Option Addr) (len1 cap1 : Nat) (z1 : List Int) (a2 : Option Addr) (len2 cap2 : Nat) (z2 : List Int) (a3 : Option Addr) (len3 cap3 : Nat) (z3 : List Int) (w : World) (w0 : IsRow .u32 w a0 len0 cap0 z0) (w1 : IsRow .u32 w a1 len1 cap1 z1) (w2 : IsRow .u32 w a2 len2 cap2 z2) (w3 : IsRow .u32 w a3 len3 cap3 z3) :
    Calls Try.prog 9 #[.slice a0 len0 cap0, .slice a1 len1 cap1, .slice a2 len2 cap2, .slice a3 len3 cap3] w fun e w' => e = .returned (.bool true) ∧ Below w.heap.size w w' := by
  by_cases h0 : 65536 < len0
  · exact wide _ _ _ _ _ _ _ _ _ _ _ _ w (.inl h0)
  by_cases h1 : 65536 < len1
  · exact wide _ _ _ _ _ _ _ _ _ _ _ _ w (.inr (.inl ⟨by omega, h1⟩))
  by_cases h2 : 65536 < len2
  · exact wide _ _ _ _ _ _ _ _ _ _ _ _ w (.inr (.inr (.inl ⟨by omega, by omega, h2⟩)))
  by_cases h3 : 65536 < len3
  · exact wide _ _ _ _ _ _ _ _ _ _ _ _ w (.inr (.inr (.inr ⟨by omega, by omega, by omega, h3⟩)))
  exact main a0 a1 a2 a3 len0 len1 len2 len3 cap0 cap1 cap2 cap3 _ _ z0 z1 z2 z3 w w0 w1 w2 w3 (by omega) (by omega) (by omega) (by omega) (Lib.hid rfl) (Lib.hid rfl)
end Go.Proofs.Ytimfajlnlfaffaa.fnWordLastEndConcat
