/- The word that the law builds, and the bytes that unquotedWordBytes makes of it. Conditions: sizes as the law bounds them. -/
import Derived.Test.YtdmmpgeaendjpaaUstr
import Derived.Laws.MakeOwn
import Derived.Deep.RegionHeld3
namespace Go.Proofs.Ytdmmpgeaendjpaa
open Go.RowKit
set_option linter.unusedVariables false
set_option linter.unusedSimpArgs false

/-- the bytes of the first k parts -/
def allb (f : Nat → ByteArray) (ks : Nat → Int) : Nat → List Int
  | 0 => []
  | k + 1 => allb f ks k ++ mbytes (ks k % 5) (f k) false
theorem allb_succ (f : Nat → ByteArray) (ks : Nat → Int) (k : Nat) : allb f ks (k + 1) = allb f ks k ++ mbytes (ks k % 5) (f k) false := rfl
/-- the flag of the last of k parts -/
def lastq (f : Nat → ByteArray) (ks : Nat → Int) : Nat → Bool
  | 0 => false
  | k + 1 => mquote (ks k % 5) (f k) false
theorem lastq_succ (f : Nat → ByteArray) (ks : Nat → Int) (k : Nat) : lastq f ks (k + 1) = mquote (ks k % 5) (f k) false := rfl
theorem allb_len (f : Nat → ByteArray) (ks : Nat → Int) (k : Nat) : (allb f ks k).length ≤ stot f k := by
  induction k with
  | zero => simp [allb, stot]
  | succ k ih =>
    have := mbytes_len (ks k % 5) (f k) false
    rw [allb_succ, stot_succ, List.length_append]; omega
/-- the word at block b -/
def UWord (f : Nat → ByteArray) (ks : Nat → Int) (n b : Nat) (W : World) : Prop :=
  ∃ g, W.cell? ⟨b, 0, none⟩ = some (.slice (some ⟨g, 0, none⟩) n n) ∧ ∀ j, j < n → ∃ x, W.cell? ⟨g, j, none⟩ = some x ∧ PartV 0 (ks j % 5) (f j) x W
theorem UWord.below {f : Nat → ByteArray} {ks : Nat → Int} {n b : Nat} {W w : World} (h : UWord f ks n b W) (hb : Below W.heap.size W w) : UWord f ks n b w := by
  obtain ⟨g, h1, h2⟩ := h
  refine ⟨g, cell_below hb h1, fun j hj => ?_⟩
  obtain ⟨x, hx, hp⟩ := h2 j hj
  exact ⟨x, cell_below hb hx, hp.below hb⟩
/-- k of n parts stand in row g, made at w0 -/
def UParts (f : Nat → ByteArray) (ks : Nat → Int) (n g : Nat) (w0 : World) (k : Nat) (wr : World) : Prop :=
  k ≤ n ∧ Below g w0 wr ∧ g < wr.heap.size ∧ ∃ xs : List Value, wr.ownsRow g 39 1 (.slice (some ⟨g, 0, none⟩) k n) k xs ∧ ∀ j, j < k → ∃ x, xs[j]? = some x ∧ PartV (g + 1) (ks j % 5) (f j) x wr
theorem infoPart : (Try.prog.info? 39).map (fun i => (i.zero, i.size, i.bytes)) = some (some .nilIface, 1, 16) := by kernel_rfl
theorem one_cell {U : World} {v : Value} {ad : Addr} (h : U.cell? (ad.add 0) = some v) : ∀ j u, [v][j]? = some u → U.cell? (ad.add j) = some u := by
  intro j u hj
  cases j with
  | zero => simp at hj; subst hj; exact h
  | succ j => simp at hj
theorem part_one {lo : Nat} {K : Int} {s : ByteArray} {x : Value} {W : World} (h : PartV lo K s x W) : ∀ u ∈ [x], u.oneCell' = true := by
  intro u hu
  simp at hu
  subst hu
  rcases h with ⟨_, b, _, rfl, _⟩ | ⟨_, b, _, rfl, _⟩ | ⟨_, p, rfl⟩ | ⟨_, _, d, g, b, m, f, _, _, _, _, rfl, _⟩ <;> rfl
theorem PartV.form {lo : Nat} {K : Int} {s : ByteArray} {x : Value} {W : World} (h : PartV lo K s x W) : ∃ T p, x = .iface T p := by
  rcases h with ⟨_, b, _, rfl, _⟩ | ⟨_, b, _, rfl, _⟩ | ⟨_, p, rfl⟩ | ⟨_, _, d, g, b, m, f, _, _, _, _, rfl, _⟩ <;> exact ⟨_, _, rfl⟩
theorem UParts.step {f : Nat → ByteArray} {ks : Nat → Int} {n g k : Nat} {w0 wr U w4 : World} {xs : List Value} {x : Value} (hk : k < n) (hg0 : g = w0.heap.size) (hB : Below g w0 wr) (hgz : g < wr.heap.size) (hlen : xs.length = k)
    (hF : ∀ j, j < k → ∃ x, xs[j]? = some x ∧ PartV (g + 1) (ks j % 5) (f j) x wr) (hU : Below wr.heap.size wr U) (hP : PartV wr.heap.size (ks k % 5) (f k) x U) (hown : w4.ownsRow g 39 1 (.slice (some ⟨g, 0, none⟩) (k + 1) n) (k + 1) (xs ++ [x])) (hg : U.grownBy w4 (some g)) : UParts f ks n g w0 (k + 1) w4 := by
  have z3 := hU.size
  have z4 := hg.size
  have keep : ∀ b o v, g + 1 ≤ b → U.cell? ⟨b, o, none⟩ = some v → w4.cell? ⟨b, o, none⟩ = some v := fun b o v hb hc => by
    have hz : b < U.heap.size := by have := World.block_lt_of_cell? _ _ hc; simpa using this
    rw [World.cell?_of_block (hg.block b hz (fun e => by injection e; omega))]
    exact hc
  refine ⟨by omega, (hB.trans (hU.mono (by omega))).grown hg (by omega) (by intro g' e; injection e; omega), by omega, _, hown, fun j hj => ?_⟩
  by_cases h : j < k
  · obtain ⟨y, h1, h2⟩ := hF j h
    exact ⟨y, by rw [List.getElem?_append_left (by omega)]; exact h1, (h2.below hU).keep keep⟩
  · obtain rfl : j = k := by omega
    exact ⟨x, by rw [List.getElem?_append_right (by omega), hlen, Nat.sub_self]; rfl, (hP.low (by omega)).keep keep⟩
theorem step_append_fits {P : Program} {ops : Array Oper} {o : Oper} {a : Act} {w : World} {K : Act → World → Prop} {Q : Exit → Act → World → Prop} {E : Prop}
    (hgd : o.guard = none) (s x : Operand) (t : TypeId) (hop : o.op = Op.call { callee := Callee.builtin Builtin.append, args := #[s, x], argTypes := #[t, t] })
    (base : Nat) (e : TypeId) (i : TypeInfo) (size : Nat) (h1 : P.underlying t = some (.slice e)) (h2 : P.info? e = some i) (h4 : i.size = size)
    (g k cap : Nat) (xs : List Value) (hs : a.eval s = .slice (some ⟨g, 0, none⟩) k cap) (hown : w.ownsRow base e size (.slice (some ⟨g, 0, none⟩) k cap) k xs) (ad : Addr) (m c : Nat) (news : List Value) (hx : a.eval x = .slice (some ad) m c) (hn : news.length = m * size)
    (hc : ∀ j u, news[j]? = some u → w.cell? (ad.add j) = some u) (h1c : ∀ u ∈ news, u.oneCell' = true) (b1 : k + m ≤ cap)
    (hK : ∀ w', w'.ownsRow base e size (.slice (some ⟨g, 0, none⟩) (k + m) cap) (k + m) (xs ++ news) → w.grownBy w' (some g) → K (a.put o.dst (.slice (some ⟨g, 0, none⟩) (k + m) cap)) w') :
    if Region.wanted o (yielded ops a.tmps) = true then Oper.wp P o a w K Q else E := by
  have hw : Region.wanted o (yielded ops a.tmps) = true := by simp [Region.wanted, hgd]
  rw [if_pos hw]
  obtain ⟨w', hrun, r1, r2⟩ := run_append_fits (P := P) w base t o.type e i size h1 h2 h4 g k cap xs hown ad m c news hn hc h1c b1
  unfold Oper.wp
  simp [execOp, hop, resolve, invoke, builtin, hs, hx, hrun, Result.andThen]
  exact hK w' r1 r2
theorem keepB {wr U : World} {p q i j : Nat} {x y : Value} (hp : wr.cell? ⟨p, i, none⟩ = some x) (hq : wr.cell? ⟨q, j, none⟩ = some y) (hb : Below wr.heap.size wr U) : U.cell? ⟨p, i, none⟩ = some x ∧ U.cell? ⟨q, j, none⟩ = some y := ⟨cell_below hb hp, cell_below hb hq⟩
theorem keepG {wr U V : World} {p q i j g : Nat} {x y : Value} (hp : wr.cell? ⟨p, i, none⟩ = some x) (hq : wr.cell? ⟨q, j, none⟩ = some y) (hg : U.grownBy V (some g)) (hpg : p ≠ g) (hqg : q ≠ g) (hb : Below wr.heap.size wr U) : V.cell? ⟨p, i, none⟩ = some x ∧ V.cell? ⟨q, j, none⟩ = some y :=
  ⟨hg.cell (cell_below hb hp) (by simpa using hpg), hg.cell (cell_below hb hq) (by simpa using hqg)⟩
set_option maxRecDepth 100000 in
set_option maxHeartbeats 4000000 in
theorem bw_any (A C : Option Addr) (n m c : Nat) (f : Nat → ByteArray) (ks : Nat → Int) (w : World) (hs : StrsOf w A n f) (hr : RowOf .u8 w C m ks) (hk : ∀ i, i < m → 0 ≤ ks i ∧ ks i ≤ 255) (hm : m ≤ 65536) (hn : n ≤ 65536) (hc : min m n = c) :
    Calls Try.prog 14 #[.slice C m m, .slice A n n] w fun e w' => ∃ b, e = .returned (.pointer (some ⟨b, 0, none⟩)) ∧ UWord f ks c b w' ∧ Below w.heap.size w w' := by
  have hcm : c ≤ m := by omega
  have hcn : c ≤ n := by omega
  have HMN := Lib.hid hc
  have HS := Lib.hid hs
  have HR := Lib.hid hr
  have HK := Lib.hid hk
  clear hs hr hk hc
  obtain ⟨tP, hi, hz0, hz1, hz2⟩ := info_parts infoPart
  have WI := Lib.hid (And.intro hi (And.intro hz1 hz2))
  have WZ := Lib.hid hz0
  clear hi hz0 hz1 hz2
  go_enter Try.func14, Try.ntmps14
  go_wp2_with fail
  refine (wc_any _ _ _ _ _ _ _ hm hn).mono ?_
  rintro e w' ⟨rfl, rfl⟩
  rw [HMN.out]
  go_wp2_with (first | (at_make; (refine wpList_make_own _ rfl _ _ 79 rfl w.heap.size 39 tP .nilIface 1 Try.underlying79 WI.out.1 WZ.out WI.out.2.1 _ _ _ c rfl rfl rfl (by rw [WI.out.2.2]; omega) (by unfold maxLen; omega) (Nat.le_refl _) ?_); intro w3 hown hgrow))
  have HRel := Lib.hid (show UParts f ks c w.heap.size w 0 w3 from ⟨Nat.zero_le _, (Below.refl _ _).grown hgrow (Nat.le_refl _) (by simp), (hown.lt w.heap.size rfl).2, [], hown, fun j h => absurd h (by omega)⟩)
  clear hown hgrow
  go_loopw [6, 7] (fun v i wr => ∃ k : Nat, i = .int .i64 k ∧ v = .slice (some ⟨w.heap.size, 0, none⟩) k c ∧ UParts f ks c w.heap.size w k wr) (fun _ i _ => c - (intOf i).toNat)
  case atStart => exact ⟨0, rfl, rfl, HRel.out⟩
  case round =>
    obtain ⟨k, rfl, rfl, hk, hB, hgz, xs, hown, hF⟩ := hrel
    clear HRel
    by_cases hlt : k < c
    · obtain ⟨gs, es, cs⟩ := HS.out k (by omega)
      obtain ⟨gk, ek, ck⟩ := HR.out k (by omega)
      have hkk := HK.out k (by omega)
      have hpg : gs ≠ w.heap.size := Nat.ne_of_lt (World.block_lt_of_cell? _ _ cs)
      have hqg : gk ≠ w.heap.size := Nat.ne_of_lt (World.block_lt_of_cell? _ _ ck)
      have HP := Lib.hid (And.intro hpg hqg)
      have c1 := cell_below hB cs
      have c2 := cell_below hB ck
      have CP := Lib.hid c1
      have CQ := Lib.hid c2
      have hlen : xs.length = k := by have := hown.1; omega
      have HL := Lib.hid hlen
      have HB := Lib.hid hB
      have HO := Lib.hid hown
      have HFF := Lib.hid hF
      have b1 : (0 : Int) ≤ (k : Int) := by omega
      have b2 : (k : Int) < (n : Int) := by omega
      have b3 : (k : Int) < (m : Int) := by omega
      have b4 : k < n := by omega
      have b5 : k < m := by omega
      have z0 := hB.size
      clear cs ck hpg hqg hlen hB hown hF
      subst es ek
      go_wp2_with fail
      go_region_held3 (fun U9 => U9.cell? ⟨gs, k, none⟩ = some (.string (f k)) ∧ U9.cell? ⟨gk, k, none⟩ = some (.int .u8 (ks k)))
        (first | (refine keepG CP.out CQ.out hg8 HP.out.1 HP.out.2 ?_; go_grown; done) | (refine keepB CP.out CQ.out ?_; go_grown; done))
        (first | (go_at_call 18; refine (bp_any (ks k) (f k) _ hkk).mono ?_; rintro e w7 ⟨x, rfl, hN, hb7⟩; have hf := hN.form; obtain ⟨T, p, rfl⟩ := hf; have hB7 : Below wr.heap.size wr w7 := below_next (by go_grown) hb7; have hN := Lib.hid (hN.low (l := wr.heap.size) (by simp)); have hown7 := HO.out.kept (grownBelow hB7 none) (.inr (by simp [Value.ownBlock])); have z7 := hB7.size; clear hb7) | (refine step_append_fits (by rfl) _ _ 79 (by rfl) w.heap.size 39 tP 1 Try.underlying79 WI.out.1 WI.out.2.1 w.heap.size k c xs (by rfl) (hown7.alloc _) ⟨w7.heap.size, 0, none⟩ 1 1 [.iface T p] (by rfl) rfl (one_cell (by simp [Addr.add, go_sem])) (part_one hN.out) (by omega) ?_; intro w8 hown8 hg8))
      go_wp2
      go_roundw
      case rel => exact ⟨k + 1, by go_num, rfl, UParts.step hlt rfl HB.out (by omega) HL.out HFF.out (hB7.alloc (by omega) _) (hN.out.below ((Below.refl _ _).alloc (Nat.le_refl _) _)) hown8 hg8⟩
      case measure => simp [intOf]; omega
    · obtain rfl : k = c := by omega
      have HO := Lib.hid hown
      have HB := Lib.hid hB
      have HFF := Lib.hid hF
      clear hown hF hB
      go_wp2_with fail
      go_ret
      have hal := fun o => (Below.refl wr.heap.size wr).alloc (Nat.le_refl _) o
      refine ⟨_, rfl, ⟨w.heap.size, by simp [go_sem], fun j hj => ?_⟩, HB.out.alloc HB.out.size _⟩
      obtain ⟨x, h1, h2⟩ := HFF.out j hj
      exact ⟨x, cell_below (hal _) (by rw [HO.out.cellAt j (by omega)]; exact h1), (h2.low (Nat.zero_le _)).below (hal _)⟩
end Go.Proofs.Ytdmmpgeaendjpaa
