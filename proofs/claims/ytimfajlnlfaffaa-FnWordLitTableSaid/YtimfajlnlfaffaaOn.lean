/- Where a node starts or ends, told so that it outlives writes below block lo: only blocks from lo on are looked at. Conditions: the cells that the method reads. -/
import Derived.Test.YtimfajlnlfaffaaNodePos
import Derived.Test.YtimfajlnlfaffaaMore
namespace Go.Proofs.Ytimfajlnlfaffaa
open Go.RowKit
set_option linter.unusedVariables false

/-- the blocks from lo on are as they were; others may have turned or come -/
def Keeps (lo : Nat) (W w : World) : Prop := W.heap.size ≤ w.heap.size ∧ ∀ x, lo ≤ x → x < W.heap.size → w.heap[x]? = W.heap[x]?
theorem Keeps.cell {lo : Nat} {W w : World} {a : Addr} {v : Value} (h : Keeps lo W w) (hc : W.cell? a = some v) (hl : lo ≤ a.block) : w.cell? a = some v :=
  (World.cell?_of_block (h.2 a.block hl (World.block_lt_of_cell? W a hc))).trans hc
theorem Keeps.of_below {lo : Nat} {W w : World} (h : Below W.heap.size W w) : Keeps lo W w := ⟨h.size, fun x _ hx => h.block x hx⟩
theorem Keeps.of_grown {lo g : Nat} {W w : World} (h : W.grownBy w (some g)) (hg : g < lo) : Keeps lo W w := ⟨h.size, fun x hl hx => h.block x hx (fun e => by injection e; omega)⟩
theorem Keeps.trans {lo : Nat} {a b c : World} (h : Keeps lo a b) (k : Keeps lo b c) : Keeps lo a c := ⟨Nat.le_trans h.1 k.1, fun x hl hx => (k.2 x hl (Nat.lt_of_lt_of_le hx h.1)).trans (h.2 x hl hx)⟩
theorem Keeps.refl (lo : Nat) (a : World) : Keeps lo a a := ⟨Nat.le_refl _, fun _ _ _ => rfl⟩
theorem Keeps.less {lo lo' : Nat} {a b : World} (h : Keeps lo a b) (hl : lo ≤ lo') : Keeps lo' a b := ⟨h.1, fun x hx => h.2 x (Nat.le_trans hl hx)⟩
/-- the method f of the node at block b returns (o, lc) in every world that keeps the blocks from lo on -/
def PosOn (P : Program) (f b : Nat) (o lc : Int) (lo : Nat) (W : World) : Prop :=
  ∀ w, Keeps lo W w → Calls P f #[.pointer (some ⟨b, 0, none⟩)] w fun e w' => e = .returned (.agg #[.int .u32 o, .int .u32 lc]) ∧ Below w.heap.size w w'
theorem PosOn.keep {P : Program} {f b : Nat} {o lc : Int} {lo : Nat} {W w : World} (h : PosOn P f b o lc lo W) (hw : Keeps lo W w) : PosOn P f b o lc lo w := fun u hu => h u (hw.trans hu)
theorem PosOn.is {P : Program} {f b : Nat} {o lc : Int} {lo : Nat} {W : World} (h : PosOn P f b o lc lo W) : PosIs P f b o lc W := fun w hw => h w (Keeps.of_below hw)
theorem PosOn.at {P : Program} {f b : Nat} {o lc : Int} {lo : Nat} {W w : World} (h : PosOn P f b o lc lo W) (hw : Keeps lo W w) : PosIs P f b o lc w := (h.keep hw).is
theorem PosOn.less {P : Program} {f b : Nat} {o lc : Int} {lo lo' : Nat} {W : World} (h : PosOn P f b o lc lo W) (hl : lo' ≤ lo) : PosOn P f b o lc lo' W := fun w hw => h w (hw.less hl)
theorem lt_cell {W : World} {b i : Nat} {v : Value} (h : W.cell? ⟨b, i, none⟩ = some v) : b < W.heap.size := World.block_lt_of_cell? W ⟨b, i, none⟩ h
theorem litPos_on {c : Nat} {o lc : Int} {lo : Nat} {W : World} (h0 : W.cell? ⟨c, 0, none⟩ = some (.int .u32 o)) (h1 : W.cell? ⟨c, 1, none⟩ = some (.int .u32 lc)) (hl : lo ≤ c) : PosOn Try.prog 65 c o lc lo W :=
  fun w hw => (litPos_is c o lc w (hw.cell h0 hl) (hw.cell h1 hl) (lt_cell (hw.cell h0 hl))).now
theorem litEnd_on {c : Nat} {o lc : Int} {lo : Nat} {W : World} (h0 : W.cell? ⟨c, 2, none⟩ = some (.int .u32 o)) (h1 : W.cell? ⟨c, 3, none⟩ = some (.int .u32 lc)) (hl : lo ≤ c) : PosOn Try.prog 68 c o lc lo W :=
  fun w hw => (litEnd_is c o lc w (hw.cell h0 hl) (hw.cell h1 hl) (lt_cell (hw.cell h0 hl))).now
theorem wordPos_on {b s c n cap : Nat} {o lc : Int} {lo : Nat} {W : World} (hn : 0 < n) (h : W.cell? ⟨b, 0, none⟩ = some (.slice (some ⟨s, 0, none⟩) n cap)) (hs : W.cell? ⟨s, 0, none⟩ = some (.iface 34 (.pointer (some ⟨c, 0, none⟩)))) (hb : lo ≤ b) (hsb : lo ≤ s) (hX : PosOn Try.prog 65 c o lc lo W) : PosOn Try.prog 37 b o lc lo W :=
  fun w hw => (wordPos_is b s c n cap o lc w hn (hw.cell h hb) (hw.cell hs hsb) (lt_cell (hw.cell h hb)) (lt_cell (hw.cell hs hsb)) (hX.at hw)).now
theorem wordEnd_on {b s c n cap : Nat} {o lc : Int} {lo : Nat} {W : World} (hn : 0 < n) (hn2 : n ≤ 4611686018427387904) (h : W.cell? ⟨b, 0, none⟩ = some (.slice (some ⟨s, 0, none⟩) n cap)) (hs : W.cell? ⟨s, n - 1, none⟩ = some (.iface 34 (.pointer (some ⟨c, 0, none⟩)))) (hb : lo ≤ b) (hsb : lo ≤ s) (hX : PosOn Try.prog 68 c o lc lo W) : PosOn Try.prog 38 b o lc lo W :=
  fun w hw => (wordEnd_is b s c n cap o lc w hn hn2 (hw.cell h hb) (hw.cell hs hsb) (lt_cell (hw.cell h hb)) (lt_cell (hw.cell hs hsb)) (hX.at hw)).now
set_option maxHeartbeats 400000 in
/-- an assignment that has a name starts at it -/
theorem asPos_on {b c : Nat} {o lc : Int} {lo : Nat} {W : World} (h : W.cell? ⟨b, 2, none⟩ = some (.pointer (some ⟨c, 0, none⟩))) (hb : lo ≤ b) (hX : PosOn Try.prog 65 c o lc lo W) : PosOn Try.prog 29 b o lc lo W := by
  intro w hw
  have h1 := hw.cell h hb
  have z1 := lt_cell h1
  have HX := Lib.hid (hX.at hw)
  clear h hb hX hw
  go_enter Try.func29, Try.ntmps29
  go_wp2_with fail
  refine (HX.out _ (by go_grown)).mono ?_
  rintro e w1 ⟨rfl, hb1⟩
  obtain ⟨k0, k1, f0, f1, hB⟩ := slot_after hb1
  clear hb1
  go_wp2_with fail
  exact bodyPost_ret (v := .agg #[.int .u32 o, .int .u32 lc]) (by simp [results, Try.results29, go_sem, k0, k1]) rfl ⟨rfl, by go_grown⟩
set_option maxHeartbeats 400000 in
/-- an assignment without a name starts where its value does -/
theorem asPos_bare {b c : Nat} {o lc : Int} {lo : Nat} {W : World} (h0 : W.cell? ⟨b, 2, none⟩ = some (.pointer none)) (h : W.cell? ⟨b, 4, none⟩ = some (.pointer (some ⟨c, 0, none⟩))) (hb : lo ≤ b) (hX : PosOn Try.prog 37 c o lc lo W) : PosOn Try.prog 29 b o lc lo W := by
  intro w hw
  have h1 := hw.cell h hb
  have h2 := hw.cell h0 hb
  have z1 := lt_cell h1
  have HX := Lib.hid (hX.at hw)
  clear h hb hX hw h0
  go_enter Try.func29, Try.ntmps29
  go_wp2_with fail
  refine (HX.out _ (by go_grown)).mono ?_
  rintro e w1 ⟨rfl, hb1⟩
  obtain ⟨k0, k1, f0, f1, hB⟩ := slot_after hb1
  clear hb1
  go_wp2_with fail
  exact bodyPost_ret (v := .agg #[.int .u32 o, .int .u32 lc]) (by simp [results, Try.results29, go_sem, k0, k1]) rfl ⟨rfl, by go_grown⟩
set_option maxHeartbeats 400000 in
/-- an assignment that has a value ends where it does -/
theorem asEnd_on {b c : Nat} {o lc : Int} {lo : Nat} {W : World} (h : W.cell? ⟨b, 4, none⟩ = some (.pointer (some ⟨c, 0, none⟩))) (hb : lo ≤ b) (hX : PosOn Try.prog 38 c o lc lo W) : PosOn Try.prog 30 b o lc lo W := by
  intro w hw
  have h1 := hw.cell h hb
  have z1 := lt_cell h1
  have HX := Lib.hid (hX.at hw)
  clear h hb hX hw
  go_enter Try.func30, Try.ntmps30
  go_wp2_with fail
  refine (HX.out _ (by go_grown)).mono ?_
  rintro e w1 ⟨rfl, hb1⟩
  obtain ⟨k0, k1, f0, f1, hB⟩ := slot_after hb1
  clear hb1
  go_wp2_with fail
  exact bodyPost_ret (v := .agg #[.int .u32 o, .int .u32 lc]) (by simp [results, Try.results30, go_sem, k0, k1]) rfl ⟨rfl, by go_grown⟩
set_option maxHeartbeats 400000 in
/-- an assignment of nothing ends one behind its name -/
theorem asEnd_name {b c : Nat} {o lc : Int} {lo : Nat} {W : World} (ho : 0 ≤ o ∧ o ≤ 4294967295) (hl : 0 ≤ lc ∧ lc ≤ 4294967295) (h2 : W.cell? ⟨b, 2, none⟩ = some (.pointer (some ⟨c, 0, none⟩))) (h1 : W.cell? ⟨b, 1, none⟩ = some (.bool false)) (h3 : W.cell? ⟨b, 3, none⟩ = some .nilIface) (h4 : W.cell? ⟨b, 4, none⟩ = some (.pointer none)) (h5 : W.cell? ⟨b, 5, none⟩ = some (.pointer none)) (hb : lo ≤ b) (hX : PosOn Try.prog 68 c o lc lo W) : PosOn Try.prog 30 b (addO o lc 1) (addLc o lc 1) lo W := by
  intro w hw
  have h1 := hw.cell h1 hb
  have h2 := hw.cell h2 hb
  have h3 := hw.cell h3 hb
  have h4 := hw.cell h4 hb
  have h5 := hw.cell h5 hb
  have z1 := lt_cell h1
  have HX := Lib.hid (hX.at hw)
  clear hb hX hw
  go_enter Try.func30, Try.ntmps30
  go_wp2_with fail
  refine (HX.out _ (by go_grown)).mono ?_
  rintro e w1 ⟨rfl, hb1⟩
  obtain ⟨k0, k1, f0, f1, hB⟩ := slot_after hb1
  have hz : w.heap.size < w1.heap.size := by have := hb1.size; simp at this; omega
  clear hb1
  go_wp2_with fail
  refine (addCol_any _ _ _ _ ho hl (by omega)).mono ?_
  rintro e w2 ⟨rfl, hb2⟩
  have k0 := bget hb2 hz k0
  have k1 := bget hb2 hz k1
  have f0 := bfroz hb2 hz f0
  have f1 := bfroz hb2 hz f1
  have hB := below_next hB hb2
  clear hb2
  go_wp2_with fail
  exact bodyPost_ret (v := .agg #[.int .u32 (addO o lc 1), .int .u32 (addLc o lc 1)]) (by simp [results, Try.results30, go_sem, k0, k1]) rfl ⟨rfl, by go_grown⟩
end Go.Proofs.Ytimfajlnlfaffaa
