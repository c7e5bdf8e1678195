/- The law's own case table, and the comparison. Conditions: none. -/
import Derived.Test.YthdbfebfgomnpaaFmtSets
import Derived.Test.YthdbfebfgomnpaaFmtKit
import Derived.OwnWalk
import Derived.Handy
namespace Go.Proofs.YthdbfebfgomnpaaFmt
open Go.RowKit
set_option linter.unusedVariables false
set_option linter.unusedSimpArgs false

theorem infoI : (Tryf.prog.info? 3).map (fun i => (i.zero, i.size, i.bytes)) = some (some (.int .i64 0), 1, 8) := by kernel_rfl
def encI (x : Int) : Value := .int .i64 x
/-- what the first k rows of the table name -/
def mdlTo (s : Int) (k : Nat) : List Int := (pows.take k).filter fun v => hasB s v && !(v == 8 && dropB s)
theorem mdlTo_yes (s n : Int) (k : Nat) (hk : pows.take (k + 1) = pows.take k ++ [n]) (h : (hasB s n && !(n == 8 && dropB s)) = true) : mdlTo s (k + 1) = mdlTo s k ++ [n] := by
  unfold mdlTo
  rw [hk, List.filter_append]
  exact congrArg _ (List.filter_cons_of_pos (p := fun v => hasB s v && !(v == 8 && dropB s)) (l := []) h)
theorem mdlTo_no (s n : Int) (k : Nat) (hk : pows.take (k + 1) = pows.take k ++ [n]) (h : (hasB s n && !(n == 8 && dropB s)) = false) : mdlTo s (k + 1) = mdlTo s k := by
  unfold mdlTo
  rw [hk, List.filter_append]
  exact (congrArg _ (List.filter_cons_of_neg (p := fun v => hasB s v && !(v == 8 && dropB s)) (l := []) (by simp only [h]; decide))).trans (List.append_nil _)
theorem mdlTo_len (s : Int) (k : Nat) : (mdlTo s k).length ≤ 5 := by
  unfold mdlTo
  exact Nat.le_trans (List.length_filter_le _ _) (by simp [pows]; omega)

theorem wp_gen {P : Program} {c : Code} {Q : Exit → Act → World → Prop} {a : Act} {W : World} (R : World → Prop) (h : R W) (k : ∀ W', R W' → c.wp P Q a W') : c.wp P Q a W := k W h
def AllAt (W : World) (b : Nat) : Prop := W.cell? ⟨b, 0, none⟩ = some (.int .i64 1) ∧ W.cell? ⟨b, 1, none⟩ = some (.int .i64 2) ∧ W.cell? ⟨b, 2, none⟩ = some (.int .i64 4) ∧ W.cell? ⟨b, 3, none⟩ = some (.int .i64 8) ∧ W.cell? ⟨b, 4, none⟩ = some (.int .i64 16)
theorem AllAt.below {W W' : World} {b : Nat} (h : AllAt W b) (hb : Below (b + 1) W W') : AllAt W' b := by
  have k : ∀ j, W'.cell? ⟨b, j, none⟩ = W.cell? ⟨b, j, none⟩ := fun j => hb.cell (p := ⟨b, j, none⟩) (Nat.lt_succ_self b)
  exact ⟨(k 0).trans h.1, (k 1).trans h.2.1, (k 2).trans h.2.2.1, (k 3).trans h.2.2.2.1, (k 4).trans h.2.2.2.2⟩
theorem has_yes {s n : Int} (h : ¬ Go.bits .and .i64 s n = 0) : hasB s n = true := by simp [hasB, h]
theorem has_no {s n : Int} (h : Go.bits .and .i64 s n = 0) : hasB s n = false := by simp [hasB, h]



set_option maxRecDepth 100000 in
set_option maxHeartbeats 8000000 in
theorem ml_00 (s : Int) (w : World) (h1 : Go.bits .and .i64 s 1 = 0) (h8 : Go.bits .and .i64 s 8 = 0) :
    Calls Tryf.prog 11 #[.int .i64 s] w fun e w' => ∃ v, e = .returned v ∧ w'.ownsRow (w.heap.size + 1) 3 1 v (mdl s).length ((mdl s).map encI) ∧ Below w.heap.size w w' := by
  obtain ⟨i0, hi, hz0, hz1, hz2⟩ := info_parts infoI
  have WI := Lib.hid (And.intro hi (And.intro hz0 (And.intro hz1 hz2)))
  clear hi hz0 hz1 hz2
  have hd : dropB s = false := by unfold dropB; rw [has_no h1, has_no h8]; rfl
  have HD := Lib.hid hd
  clear hd
  have q1 : (Go.bits .and .i64 s 1 != 0) = false := by simp [h1]
  have q8 : (Go.bits .and .i64 s 8 != 0) = false := by simp [h8]
  go_enter Tryf.func11, Tryf.ntmps11
  go_wp2_with fail
  refine wp_gen (fun W' => AllAt W' w.heap.size ∧ Below w.heap.size w W' ∧ W'.heap.size = w.heap.size + 1) ⟨by refine ⟨?_, ?_, ?_, ?_, ?_⟩ <;> simp [go_sem], by go_grown, by simp⟩ ?_
  rintro wA ⟨hA, hbA, hsA⟩
  have HA := Lib.hid (And.intro hA (And.intro hbA hsA))
  clear hA hbA hsA
  go_loopw [5, 6] (fun o i wr => ∃ (k : Nat) (z : Int) (v : Value), k ≤ 5 ∧ z = k ∧ i = .int .i64 z ∧ v = o ∧ Hid (wr.ownsRow (w.heap.size + 1) 3 1 v (mdlTo s k).length ((mdlTo s k).map encI) ∧ Below (w.heap.size + 1) wA wr)) (fun _ i _ => 5 - (vI i).toNat)
  case atStart => exact ⟨0, 0, .slice none 0 0, by omega, rfl, rfl, rfl, Lib.hid ⟨⟨rfl, .inl ⟨rfl, rfl⟩⟩, Below.refl _ _⟩⟩
  case round =>
    obtain ⟨k, z, v, hk, hz, rfl, rfl, HR⟩ := hrel
    obtain ⟨a0, a1, a2, a3, a4⟩ := HA.out.1.below HR.out.2
    have zw : w.heap.size < wr.heap.size := by have := HR.out.2.size; have := HA.out.2.2; omega
    by_cases hlt : k < 5
    · rcases (show k = 0 ∨ k = 1 ∨ k = 2 ∨ k = 3 ∨ k = 4 by omega) with rfl | rfl | rfl | rfl | rfl
      · obtain rfl : z = 0 := hz
        rw [← mdlTo_no s 1 0 rfl (by rw [has_no h1]; rfl)] at HR
        go_wp2_with fail
        exact ⟨⟨1, 1, v, by omega, rfl, rfl, rfl, HR⟩, by simp [vI]⟩
      · obtain rfl : z = 1 := hz
        by_cases hb : Go.bits .and .i64 s 2 = 0
        · rw [← mdlTo_no s 2 1 rfl (by rw [has_no hb]; rfl)] at HR
          go_wp2_with fail
          exact ⟨⟨2, 2, v, by omega, rfl, rfl, rfl, HR⟩, by simp [vI]⟩
        · have hown := HR.out.1
          have hbel := HR.out.2
          have hle := mdlTo_len s 1
          obtain ⟨hi, hz0, hz1, hz2⟩ := WI.out
          have HO := Lib.hid (And.intro hown (And.intro hbel (And.intro hle (And.intro hi (And.intro hz0 (And.intro hz1 hz2))))))
          clear hown hbel hle hi hz0 hz1 hz2 HR
          go_wp2_with (at_builtin; refine wpList_append_own _ rfl _ _ 38 rfl (w.heap.size + 1) 3 i0 (.int .i64 0) 1 8 Tryf.underlying38 HO.out.2.2.2.1 HO.out.2.2.2.2.1 HO.out.2.2.2.2.2.1 HO.out.2.2.2.2.2.2 rfl (by decide) _ _ _ rfl (HO.out.1.alloc _) ⟨wr.heap.size, 0, none⟩ 1 1 [encI 2] rfl rfl ?c1 ?c2 ?c3 ?c4 ?c5 ?_)
          case c1 =>
            intro j u hj
            match j, hj with
            | 0, hj => simp at hj; subst hj; simp [Addr.add, encI]
          case c2 => intro u hu; simp at hu; subst hu; rfl
          case c3 => have := HO.out.2.2.1; unfold maxLen; omega
          case c4 => have := HO.out.2.2.1; omega
          case c5 => simp; omega
          intro v' w2 hown' hgrow _
          have hb2 : Below (w.heap.size + 1) wA w2 := (HO.out.2.1.alloc (by omega) _).grown hgrow (by simp; omega) (fun j hj => ((HO.out.1.lt j hj)).1)
          have HR : Hid (w2.ownsRow (w.heap.size + 1) 3 1 v' (mdlTo s 2).length ((mdlTo s 2).map encI) ∧ Below (w.heap.size + 1) wA w2) := Lib.hid ⟨by rw [mdlTo_yes s 2 1 rfl (by rw [has_yes hb]; rfl)]; simpa using hown', hb2⟩
          clear hown' hgrow hb2
          go_wp2_with fail
          exact ⟨⟨2, 2, v', by omega, rfl, rfl, rfl, HR⟩, by simp [vI]⟩
      · obtain rfl : z = 2 := hz
        by_cases hb : Go.bits .and .i64 s 4 = 0
        · rw [← mdlTo_no s 4 2 rfl (by rw [has_no hb]; rfl)] at HR
          go_wp2_with fail
          exact ⟨⟨3, 3, v, by omega, rfl, rfl, rfl, HR⟩, by simp [vI]⟩
        · have hown := HR.out.1
          have hbel := HR.out.2
          have hle := mdlTo_len s 2
          obtain ⟨hi, hz0, hz1, hz2⟩ := WI.out
          have HO := Lib.hid (And.intro hown (And.intro hbel (And.intro hle (And.intro hi (And.intro hz0 (And.intro hz1 hz2))))))
          clear hown hbel hle hi hz0 hz1 hz2 HR
          go_wp2_with (at_builtin; refine wpList_append_own _ rfl _ _ 38 rfl (w.heap.size + 1) 3 i0 (.int .i64 0) 1 8 Tryf.underlying38 HO.out.2.2.2.1 HO.out.2.2.2.2.1 HO.out.2.2.2.2.2.1 HO.out.2.2.2.2.2.2 rfl (by decide) _ _ _ rfl (HO.out.1.alloc _) ⟨wr.heap.size, 0, none⟩ 1 1 [encI 4] rfl rfl ?c1 ?c2 ?c3 ?c4 ?c5 ?_)
          case c1 =>
            intro j u hj
            match j, hj with
            | 0, hj => simp at hj; subst hj; simp [Addr.add, encI]
          case c2 => intro u hu; simp at hu; subst hu; rfl
          case c3 => have := HO.out.2.2.1; unfold maxLen; omega
          case c4 => have := HO.out.2.2.1; omega
          case c5 => simp; omega
          intro v' w2 hown' hgrow _
          have hb2 : Below (w.heap.size + 1) wA w2 := (HO.out.2.1.alloc (by omega) _).grown hgrow (by simp; omega) (fun j hj => ((HO.out.1.lt j hj)).1)
          have HR : Hid (w2.ownsRow (w.heap.size + 1) 3 1 v' (mdlTo s 3).length ((mdlTo s 3).map encI) ∧ Below (w.heap.size + 1) wA w2) := Lib.hid ⟨by rw [mdlTo_yes s 4 2 rfl (by rw [has_yes hb]; rfl)]; simpa using hown', hb2⟩
          clear hown' hgrow hb2
          go_wp2_with fail
          exact ⟨⟨3, 3, v', by omega, rfl, rfl, rfl, HR⟩, by simp [vI]⟩
      · obtain rfl : z = 3 := hz
        rw [← mdlTo_no s 8 3 rfl (by rw [has_no h8]; rfl)] at HR
        go_wp2_with fail
        exact ⟨⟨4, 4, v, by omega, rfl, rfl, rfl, HR⟩, by simp [vI]⟩
      · obtain rfl : z = 4 := hz
        by_cases hb : Go.bits .and .i64 s 16 = 0
        · rw [← mdlTo_no s 16 4 rfl (by rw [has_no hb]; rfl)] at HR
          go_wp2_with fail
          exact ⟨⟨5, 5, v, by omega, rfl, rfl, rfl, HR⟩, by simp [vI]⟩
        · have hown := HR.out.1
          have hbel := HR.out.2
          have hle := mdlTo_len s 4
          obtain ⟨hi, hz0, hz1, hz2⟩ := WI.out
          have HO := Lib.hid (And.intro hown (And.intro hbel (And.intro hle (And.intro hi (And.intro hz0 (And.intro hz1 hz2))))))
          clear hown hbel hle hi hz0 hz1 hz2 HR
          go_wp2_with (at_builtin; refine wpList_append_own _ rfl _ _ 38 rfl (w.heap.size + 1) 3 i0 (.int .i64 0) 1 8 Tryf.underlying38 HO.out.2.2.2.1 HO.out.2.2.2.2.1 HO.out.2.2.2.2.2.1 HO.out.2.2.2.2.2.2 rfl (by decide) _ _ _ rfl (HO.out.1.alloc _) ⟨wr.heap.size, 0, none⟩ 1 1 [encI 16] rfl rfl ?c1 ?c2 ?c3 ?c4 ?c5 ?_)
          case c1 =>
            intro j u hj
            match j, hj with
            | 0, hj => simp at hj; subst hj; simp [Addr.add, encI]
          case c2 => intro u hu; simp at hu; subst hu; rfl
          case c3 => have := HO.out.2.2.1; unfold maxLen; omega
          case c4 => have := HO.out.2.2.1; omega
          case c5 => simp; omega
          intro v' w2 hown' hgrow _
          have hb2 : Below (w.heap.size + 1) wA w2 := (HO.out.2.1.alloc (by omega) _).grown hgrow (by simp; omega) (fun j hj => ((HO.out.1.lt j hj)).1)
          have HR : Hid (w2.ownsRow (w.heap.size + 1) 3 1 v' (mdlTo s 5).length ((mdlTo s 5).map encI) ∧ Below (w.heap.size + 1) wA w2) := Lib.hid ⟨by rw [mdlTo_yes s 16 4 rfl (by rw [has_yes hb]; rfl)]; simpa using hown', hb2⟩
          clear hown' hgrow hb2
          go_wp2_with fail
          exact ⟨⟨5, 5, v', by omega, rfl, rfl, rfl, HR⟩, by simp [vI]⟩
    · obtain rfl : k = 5 := by omega
      obtain rfl : z = 5 := hz
      have HF : Hid (wr.ownsRow (w.heap.size + 1) 3 1 v (mdl s).length ((mdl s).map encI) ∧ Below w.heap.size w wr) := Lib.hid ⟨HR.out.1, HA.out.2.1.trans (HR.out.2.mono (by omega))⟩
      clear HR HA
      go_wp2_with fail
      go_ret
      exact ⟨_, rfl, HF.out.1, HF.out.2⟩
set_option maxRecDepth 100000 in
set_option maxHeartbeats 8000000 in
theorem ml_01 (s : Int) (w : World) (h1 : Go.bits .and .i64 s 1 = 0) (h8 : ¬ Go.bits .and .i64 s 8 = 0) :
    Calls Tryf.prog 11 #[.int .i64 s] w fun e w' => ∃ v, e = .returned v ∧ w'.ownsRow (w.heap.size + 1) 3 1 v (mdl s).length ((mdl s).map encI) ∧ Below w.heap.size w w' := by
  obtain ⟨i0, hi, hz0, hz1, hz2⟩ := info_parts infoI
  have WI := Lib.hid (And.intro hi (And.intro hz0 (And.intro hz1 hz2)))
  clear hi hz0 hz1 hz2
  have hd : dropB s = false := by unfold dropB; rw [has_no h1, has_yes h8]; rfl
  have HD := Lib.hid hd
  clear hd
  have q1 : (Go.bits .and .i64 s 1 != 0) = false := by simp [h1]
  have q8 : (Go.bits .and .i64 s 8 != 0) = true := by simp [h8]
  go_enter Tryf.func11, Tryf.ntmps11
  go_wp2_with fail
  refine wp_gen (fun W' => AllAt W' w.heap.size ∧ Below w.heap.size w W' ∧ W'.heap.size = w.heap.size + 1) ⟨by refine ⟨?_, ?_, ?_, ?_, ?_⟩ <;> simp [go_sem], by go_grown, by simp⟩ ?_
  rintro wA ⟨hA, hbA, hsA⟩
  have HA := Lib.hid (And.intro hA (And.intro hbA hsA))
  clear hA hbA hsA
  go_loopw [5, 6] (fun o i wr => ∃ (k : Nat) (z : Int) (v : Value), k ≤ 5 ∧ z = k ∧ i = .int .i64 z ∧ v = o ∧ Hid (wr.ownsRow (w.heap.size + 1) 3 1 v (mdlTo s k).length ((mdlTo s k).map encI) ∧ Below (w.heap.size + 1) wA wr)) (fun _ i _ => 5 - (vI i).toNat)
  case atStart => exact ⟨0, 0, .slice none 0 0, by omega, rfl, rfl, rfl, Lib.hid ⟨⟨rfl, .inl ⟨rfl, rfl⟩⟩, Below.refl _ _⟩⟩
  case round =>
    obtain ⟨k, z, v, hk, hz, rfl, rfl, HR⟩ := hrel
    obtain ⟨a0, a1, a2, a3, a4⟩ := HA.out.1.below HR.out.2
    have zw : w.heap.size < wr.heap.size := by have := HR.out.2.size; have := HA.out.2.2; omega
    by_cases hlt : k < 5
    · rcases (show k = 0 ∨ k = 1 ∨ k = 2 ∨ k = 3 ∨ k = 4 by omega) with rfl | rfl | rfl | rfl | rfl
      · obtain rfl : z = 0 := hz
        rw [← mdlTo_no s 1 0 rfl (by rw [has_no h1]; rfl)] at HR
        go_wp2_with fail
        exact ⟨⟨1, 1, v, by omega, rfl, rfl, rfl, HR⟩, by simp [vI]⟩
      · obtain rfl : z = 1 := hz
        by_cases hb : Go.bits .and .i64 s 2 = 0
        · rw [← mdlTo_no s 2 1 rfl (by rw [has_no hb]; rfl)] at HR
          go_wp2_with fail
          exact ⟨⟨2, 2, v, by omega, rfl, rfl, rfl, HR⟩, by simp [vI]⟩
        · have hown := HR.out.1
          have hbel := HR.out.2
          have hle := mdlTo_len s 1
          obtain ⟨hi, hz0, hz1, hz2⟩ := WI.out
          have HO := Lib.hid (And.intro hown (And.intro hbel (And.intro hle (And.intro hi (And.intro hz0 (And.intro hz1 hz2))))))
          clear hown hbel hle hi hz0 hz1 hz2 HR
          go_wp2_with (at_builtin; refine wpList_append_own _ rfl _ _ 38 rfl (w.heap.size + 1) 3 i0 (.int .i64 0) 1 8 Tryf.underlying38 HO.out.2.2.2.1 HO.out.2.2.2.2.1 HO.out.2.2.2.2.2.1 HO.out.2.2.2.2.2.2 rfl (by decide) _ _ _ rfl (HO.out.1.alloc _) ⟨wr.heap.size, 0, none⟩ 1 1 [encI 2] rfl rfl ?c1 ?c2 ?c3 ?c4 ?c5 ?_)
          case c1 =>
            intro j u hj
            match j, hj with
            | 0, hj => simp at hj; subst hj; simp [Addr.add, encI]
          case c2 => intro u hu; simp at hu; subst hu; rfl
          case c3 => have := HO.out.2.2.1; unfold maxLen; omega
          case c4 => have := HO.out.2.2.1; omega
          case c5 => simp; omega
          intro v' w2 hown' hgrow _
          have hb2 : Below (w.heap.size + 1) wA w2 := (HO.out.2.1.alloc (by omega) _).grown hgrow (by simp; omega) (fun j hj => ((HO.out.1.lt j hj)).1)
          have HR : Hid (w2.ownsRow (w.heap.size + 1) 3 1 v' (mdlTo s 2).length ((mdlTo s 2).map encI) ∧ Below (w.heap.size + 1) wA w2) := Lib.hid ⟨by rw [mdlTo_yes s 2 1 rfl (by rw [has_yes hb]; rfl)]; simpa using hown', hb2⟩
          clear hown' hgrow hb2
          go_wp2_with fail
          exact ⟨⟨2, 2, v', by omega, rfl, rfl, rfl, HR⟩, by simp [vI]⟩
      · obtain rfl : z = 2 := hz
        by_cases hb : Go.bits .and .i64 s 4 = 0
        · rw [← mdlTo_no s 4 2 rfl (by rw [has_no hb]; rfl)] at HR
          go_wp2_with fail
          exact ⟨⟨3, 3, v, by omega, rfl, rfl, rfl, HR⟩, by simp [vI]⟩
        · have hown := HR.out.1
          have hbel := HR.out.2
          have hle := mdlTo_len s 2
          obtain ⟨hi, hz0, hz1, hz2⟩ := WI.out
          have HO := Lib.hid (And.intro hown (And.intro hbel (And.intro hle (And.intro hi (And.intro hz0 (And.intro hz1 hz2))))))
          clear hown hbel hle hi hz0 hz1 hz2 HR
          go_wp2_with (at_builtin; refine wpList_append_own _ rfl _ _ 38 rfl (w.heap.size + 1) 3 i0 (.int .i64 0) 1 8 Tryf.underlying38 HO.out.2.2.2.1 HO.out.2.2.2.2.1 HO.out.2.2.2.2.2.1 HO.out.2.2.2.2.2.2 rfl (by decide) _ _ _ rfl (HO.out.1.alloc _) ⟨wr.heap.size, 0, none⟩ 1 1 [encI 4] rfl rfl ?c1 ?c2 ?c3 ?c4 ?c5 ?_)
          case c1 =>
            intro j u hj
            match j, hj with
            | 0, hj => simp at hj; subst hj; simp [Addr.add, encI]
          case c2 => intro u hu; simp at hu; subst hu; rfl
          case c3 => have := HO.out.2.2.1; unfold maxLen; omega
          case c4 => have := HO.out.2.2.1; omega
          case c5 => simp; omega
          intro v' w2 hown' hgrow _
          have hb2 : Below (w.heap.size + 1) wA w2 := (HO.out.2.1.alloc (by omega) _).grown hgrow (by simp; omega) (fun j hj => ((HO.out.1.lt j hj)).1)
          have HR : Hid (w2.ownsRow (w.heap.size + 1) 3 1 v' (mdlTo s 3).length ((mdlTo s 3).map encI) ∧ Below (w.heap.size + 1) wA w2) := Lib.hid ⟨by rw [mdlTo_yes s 4 2 rfl (by rw [has_yes hb]; rfl)]; simpa using hown', hb2⟩
          clear hown' hgrow hb2
          go_wp2_with fail
          exact ⟨⟨3, 3, v', by omega, rfl, rfl, rfl, HR⟩, by simp [vI]⟩
      · obtain rfl : z = 3 := hz
        have hown := HR.out.1
        have hbel := HR.out.2
        have hle := mdlTo_len s 3
        obtain ⟨hi, hz0, hz1, hz2⟩ := WI.out
        have HO := Lib.hid (And.intro hown (And.intro hbel (And.intro hle (And.intro hi (And.intro hz0 (And.intro hz1 hz2))))))
        clear hown hbel hle hi hz0 hz1 hz2 HR
        go_wp2_with (at_builtin; refine wpList_append_own _ rfl _ _ 38 rfl (w.heap.size + 1) 3 i0 (.int .i64 0) 1 8 Tryf.underlying38 HO.out.2.2.2.1 HO.out.2.2.2.2.1 HO.out.2.2.2.2.2.1 HO.out.2.2.2.2.2.2 rfl (by decide) _ _ _ rfl (HO.out.1.alloc _) ⟨wr.heap.size, 0, none⟩ 1 1 [encI 8] rfl rfl ?c1 ?c2 ?c3 ?c4 ?c5 ?_)
        case c1 =>
          intro j u hj
          match j, hj with
          | 0, hj => simp at hj; subst hj; simp [Addr.add, encI]
        case c2 => intro u hu; simp at hu; subst hu; rfl
        case c3 => have := HO.out.2.2.1; unfold maxLen; omega
        case c4 => have := HO.out.2.2.1; omega
        case c5 => simp; omega
        intro v' w2 hown' hgrow _
        have hb2 : Below (w.heap.size + 1) wA w2 := (HO.out.2.1.alloc (by omega) _).grown hgrow (by simp; omega) (fun j hj => ((HO.out.1.lt j hj)).1)
        have HR : Hid (w2.ownsRow (w.heap.size + 1) 3 1 v' (mdlTo s 4).length ((mdlTo s 4).map encI) ∧ Below (w.heap.size + 1) wA w2) := Lib.hid ⟨by rw [mdlTo_yes s 8 3 rfl (by rw [has_yes h8, HD.out]; rfl)]; simpa using hown', hb2⟩
        clear hown' hgrow hb2
        go_wp2_with fail
        exact ⟨⟨4, 4, v', by omega, rfl, rfl, rfl, HR⟩, by simp [vI]⟩
      · obtain rfl : z = 4 := hz
        by_cases hb : Go.bits .and .i64 s 16 = 0
        · rw [← mdlTo_no s 16 4 rfl (by rw [has_no hb]; rfl)] at HR
          go_wp2_with fail
          exact ⟨⟨5, 5, v, by omega, rfl, rfl, rfl, HR⟩, by simp [vI]⟩
        · have hown := HR.out.1
          have hbel := HR.out.2
          have hle := mdlTo_len s 4
          obtain ⟨hi, hz0, hz1, hz2⟩ := WI.out
          have HO := Lib.hid (And.intro hown (And.intro hbel (And.intro hle (And.intro hi (And.intro hz0 (And.intro hz1 hz2))))))
          clear hown hbel hle hi hz0 hz1 hz2 HR
          go_wp2_with (at_builtin; refine wpList_append_own _ rfl _ _ 38 rfl (w.heap.size + 1) 3 i0 (.int .i64 0) 1 8 Tryf.underlying38 HO.out.2.2.2.1 HO.out.2.2.2.2.1 HO.out.2.2.2.2.2.1 HO.out.2.2.2.2.2.2 rfl (by decide) _ _ _ rfl (HO.out.1.alloc _) ⟨wr.heap.size, 0, none⟩ 1 1 [encI 16] rfl rfl ?c1 ?c2 ?c3 ?c4 ?c5 ?_)
          case c1 =>
            intro j u hj
            match j, hj with
            | 0, hj => simp at hj; subst hj; simp [Addr.add, encI]
          case c2 => intro u hu; simp at hu; subst hu; rfl
          case c3 => have := HO.out.2.2.1; unfold maxLen; omega
          case c4 => have := HO.out.2.2.1; omega
          case c5 => simp; omega
          intro v' w2 hown' hgrow _
          have hb2 : Below (w.heap.size + 1) wA w2 := (HO.out.2.1.alloc (by omega) _).grown hgrow (by simp; omega) (fun j hj => ((HO.out.1.lt j hj)).1)
          have HR : Hid (w2.ownsRow (w.heap.size + 1) 3 1 v' (mdlTo s 5).length ((mdlTo s 5).map encI) ∧ Below (w.heap.size + 1) wA w2) := Lib.hid ⟨by rw [mdlTo_yes s 16 4 rfl (by rw [has_yes hb]; rfl)]; simpa using hown', hb2⟩
          clear hown' hgrow hb2
          go_wp2_with fail
          exact ⟨⟨5, 5, v', by omega, rfl, rfl, rfl, HR⟩, by simp [vI]⟩
    · obtain rfl : k = 5 := by omega
      obtain rfl : z = 5 := hz
      have HF : Hid (wr.ownsRow (w.heap.size + 1) 3 1 v (mdl s).length ((mdl s).map encI) ∧ Below w.heap.size w wr) := Lib.hid ⟨HR.out.1, HA.out.2.1.trans (HR.out.2.mono (by omega))⟩
      clear HR HA
      go_wp2_with fail
      go_ret
      exact ⟨_, rfl, HF.out.1, HF.out.2⟩
set_option maxRecDepth 100000 in
set_option maxHeartbeats 8000000 in
theorem ml_10 (s : Int) (w : World) (h1 : ¬ Go.bits .and .i64 s 1 = 0) (h8 : Go.bits .and .i64 s 8 = 0) :
    Calls Tryf.prog 11 #[.int .i64 s] w fun e w' => ∃ v, e = .returned v ∧ w'.ownsRow (w.heap.size + 1) 3 1 v (mdl s).length ((mdl s).map encI) ∧ Below w.heap.size w w' := by
  obtain ⟨i0, hi, hz0, hz1, hz2⟩ := info_parts infoI
  have WI := Lib.hid (And.intro hi (And.intro hz0 (And.intro hz1 hz2)))
  clear hi hz0 hz1 hz2
  have hd : dropB s = false := by unfold dropB; rw [has_yes h1, has_no h8]; rfl
  have HD := Lib.hid hd
  clear hd
  have q1 : (Go.bits .and .i64 s 1 != 0) = true := by simp [h1]
  have q8 : (Go.bits .and .i64 s 8 != 0) = false := by simp [h8]
  go_enter Tryf.func11, Tryf.ntmps11
  go_wp2_with fail
  refine wp_gen (fun W' => AllAt W' w.heap.size ∧ Below w.heap.size w W' ∧ W'.heap.size = w.heap.size + 1) ⟨by refine ⟨?_, ?_, ?_, ?_, ?_⟩ <;> simp [go_sem], by go_grown, by simp⟩ ?_
  rintro wA ⟨hA, hbA, hsA⟩
  have HA := Lib.hid (And.intro hA (And.intro hbA hsA))
  clear hA hbA hsA
  go_loopw [5, 6] (fun o i wr => ∃ (k : Nat) (z : Int) (v : Value), k ≤ 5 ∧ z = k ∧ i = .int .i64 z ∧ v = o ∧ Hid (wr.ownsRow (w.heap.size + 1) 3 1 v (mdlTo s k).length ((mdlTo s k).map encI) ∧ Below (w.heap.size + 1) wA wr)) (fun _ i _ => 5 - (vI i).toNat)
  case atStart => exact ⟨0, 0, .slice none 0 0, by omega, rfl, rfl, rfl, Lib.hid ⟨⟨rfl, .inl ⟨rfl, rfl⟩⟩, Below.refl _ _⟩⟩
  case round =>
    obtain ⟨k, z, v, hk, hz, rfl, rfl, HR⟩ := hrel
    obtain ⟨a0, a1, a2, a3, a4⟩ := HA.out.1.below HR.out.2
    have zw : w.heap.size < wr.heap.size := by have := HR.out.2.size; have := HA.out.2.2; omega
    by_cases hlt : k < 5
    · rcases (show k = 0 ∨ k = 1 ∨ k = 2 ∨ k = 3 ∨ k = 4 by omega) with rfl | rfl | rfl | rfl | rfl
      · obtain rfl : z = 0 := hz
        have hown := HR.out.1
        have hbel := HR.out.2
        have hle := mdlTo_len s 0
        obtain ⟨hi, hz0, hz1, hz2⟩ := WI.out
        have HO := Lib.hid (And.intro hown (And.intro hbel (And.intro hle (And.intro hi (And.intro hz0 (And.intro hz1 hz2))))))
        clear hown hbel hle hi hz0 hz1 hz2 HR
        go_wp2_with (at_builtin; refine wpList_append_own _ rfl _ _ 38 rfl (w.heap.size + 1) 3 i0 (.int .i64 0) 1 8 Tryf.underlying38 HO.out.2.2.2.1 HO.out.2.2.2.2.1 HO.out.2.2.2.2.2.1 HO.out.2.2.2.2.2.2 rfl (by decide) _ _ _ rfl (HO.out.1.alloc _) ⟨wr.heap.size, 0, none⟩ 1 1 [encI 1] rfl rfl ?c1 ?c2 ?c3 ?c4 ?c5 ?_)
        case c1 =>
          intro j u hj
          match j, hj with
          | 0, hj => simp at hj; subst hj; simp [Addr.add, encI]
        case c2 => intro u hu; simp at hu; subst hu; rfl
        case c3 => have := HO.out.2.2.1; unfold maxLen; omega
        case c4 => have := HO.out.2.2.1; omega
        case c5 => simp; omega
        intro v' w2 hown' hgrow _
        have hb2 : Below (w.heap.size + 1) wA w2 := (HO.out.2.1.alloc (by omega) _).grown hgrow (by simp; omega) (fun j hj => ((HO.out.1.lt j hj)).1)
        have HR : Hid (w2.ownsRow (w.heap.size + 1) 3 1 v' (mdlTo s 1).length ((mdlTo s 1).map encI) ∧ Below (w.heap.size + 1) wA w2) := Lib.hid ⟨by rw [mdlTo_yes s 1 0 rfl (by rw [has_yes h1]; rfl)]; simpa using hown', hb2⟩
        clear hown' hgrow hb2
        go_wp2_with fail
        exact ⟨⟨1, 1, v', by omega, rfl, rfl, rfl, HR⟩, by simp [vI]⟩
      · obtain rfl : z = 1 := hz
        by_cases hb : Go.bits .and .i64 s 2 = 0
        · rw [← mdlTo_no s 2 1 rfl (by rw [has_no hb]; rfl)] at HR
          go_wp2_with fail
          exact ⟨⟨2, 2, v, by omega, rfl, rfl, rfl, HR⟩, by simp [vI]⟩
        · have hown := HR.out.1
          have hbel := HR.out.2
          have hle := mdlTo_len s 1
          obtain ⟨hi, hz0, hz1, hz2⟩ := WI.out
          have HO := Lib.hid (And.intro hown (And.intro hbel (And.intro hle (And.intro hi (And.intro hz0 (And.intro hz1 hz2))))))
          clear hown hbel hle hi hz0 hz1 hz2 HR
          go_wp2_with (at_builtin; refine wpList_append_own _ rfl _ _ 38 rfl (w.heap.size + 1) 3 i0 (.int .i64 0) 1 8 Tryf.underlying38 HO.out.2.2.2.1 HO.out.2.2.2.2.1 HO.out.2.2.2.2.2.1 HO.out.2.2.2.2.2.2 rfl (by decide) _ _ _ rfl (HO.out.1.alloc _) ⟨wr.heap.size, 0, none⟩ 1 1 [encI 2] rfl rfl ?c1 ?c2 ?c3 ?c4 ?c5 ?_)
          case c1 =>
            intro j u hj
            match j, hj with
            | 0, hj => simp at hj; subst hj; simp [Addr.add, encI]
          case c2 => intro u hu; simp at hu; subst hu; rfl
          case c3 => have := HO.out.2.2.1; unfold maxLen; omega
          case c4 => have := HO.out.2.2.1; omega
          case c5 => simp; omega
          intro v' w2 hown' hgrow _
          have hb2 : Below (w.heap.size + 1) wA w2 := (HO.out.2.1.alloc (by omega) _).grown hgrow (by simp; omega) (fun j hj => ((HO.out.1.lt j hj)).1)
          have HR : Hid (w2.ownsRow (w.heap.size + 1) 3 1 v' (mdlTo s 2).length ((mdlTo s 2).map encI) ∧ Below (w.heap.size + 1) wA w2) := Lib.hid ⟨by rw [mdlTo_yes s 2 1 rfl (by rw [has_yes hb]; rfl)]; simpa using hown', hb2⟩
          clear hown' hgrow hb2
          go_wp2_with fail
          exact ⟨⟨2, 2, v', by omega, rfl, rfl, rfl, HR⟩, by simp [vI]⟩
      · obtain rfl : z = 2 := hz
        by_cases hb : Go.bits .and .i64 s 4 = 0
        · rw [← mdlTo_no s 4 2 rfl (by rw [has_no hb]; rfl)] at HR
          go_wp2_with fail
          exact ⟨⟨3, 3, v, by omega, rfl, rfl, rfl, HR⟩, by simp [vI]⟩
        · have hown := HR.out.1
          have hbel := HR.out.2
          have hle := mdlTo_len s 2
          obtain ⟨hi, hz0, hz1, hz2⟩ := WI.out
          have HO := Lib.hid (And.intro hown (And.intro hbel (And.intro hle (And.intro hi (And.intro hz0 (And.intro hz1 hz2))))))
          clear hown hbel hle hi hz0 hz1 hz2 HR
          go_wp2_with (at_builtin; refine wpList_append_own _ rfl _ _ 38 rfl (w.heap.size + 1) 3 i0 (.int .i64 0) 1 8 Tryf.underlying38 HO.out.2.2.2.1 HO.out.2.2.2.2.1 HO.out.2.2.2.2.2.1 HO.out.2.2.2.2.2.2 rfl (by decide) _ _ _ rfl (HO.out.1.alloc _) ⟨wr.heap.size, 0, none⟩ 1 1 [encI 4] rfl rfl ?c1 ?c2 ?c3 ?c4 ?c5 ?_)
          case c1 =>
            intro j u hj
            match j, hj with
            | 0, hj => simp at hj; subst hj; simp [Addr.add, encI]
          case c2 => intro u hu; simp at hu; subst hu; rfl
          case c3 => have := HO.out.2.2.1; unfold maxLen; omega
          case c4 => have := HO.out.2.2.1; omega
          case c5 => simp; omega
          intro v' w2 hown' hgrow _
          have hb2 : Below (w.heap.size + 1) wA w2 := (HO.out.2.1.alloc (by omega) _).grown hgrow (by simp; omega) (fun j hj => ((HO.out.1.lt j hj)).1)
          have HR : Hid (w2.ownsRow (w.heap.size + 1) 3 1 v' (mdlTo s 3).length ((mdlTo s 3).map encI) ∧ Below (w.heap.size + 1) wA w2) := Lib.hid ⟨by rw [mdlTo_yes s 4 2 rfl (by rw [has_yes hb]; rfl)]; simpa using hown', hb2⟩
          clear hown' hgrow hb2
          go_wp2_with fail
          exact ⟨⟨3, 3, v', by omega, rfl, rfl, rfl, HR⟩, by simp [vI]⟩
      · obtain rfl : z = 3 := hz
        rw [← mdlTo_no s 8 3 rfl (by rw [has_no h8]; rfl)] at HR
        go_wp2_with fail
        exact ⟨⟨4, 4, v, by omega, rfl, rfl, rfl, HR⟩, by simp [vI]⟩
      · obtain rfl : z = 4 := hz
        by_cases hb : Go.bits .and .i64 s 16 = 0
        · rw [← mdlTo_no s 16 4 rfl (by rw [has_no hb]; rfl)] at HR
          go_wp2_with fail
          exact ⟨⟨5, 5, v, by omega, rfl, rfl, rfl, HR⟩, by simp [vI]⟩
        · have hown := HR.out.1
          have hbel := HR.out.2
          have hle := mdlTo_len s 4
          obtain ⟨hi, hz0, hz1, hz2⟩ := WI.out
          have HO := Lib.hid (And.intro hown (And.intro hbel (And.intro hle (And.intro hi (And.intro hz0 (And.intro hz1 hz2))))))
          clear hown hbel hle hi hz0 hz1 hz2 HR
          go_wp2_with (at_builtin; refine wpList_append_own _ rfl _ _ 38 rfl (w.heap.size + 1) 3 i0 (.int .i64 0) 1 8 Tryf.underlying38 HO.out.2.2.2.1 HO.out.2.2.2.2.1 HO.out.2.2.2.2.2.1 HO.out.2.2.2.2.2.2 rfl (by decide) _ _ _ rfl (HO.out.1.alloc _) ⟨wr.heap.size, 0, none⟩ 1 1 [encI 16] rfl rfl ?c1 ?c2 ?c3 ?c4 ?c5 ?_)
          case c1 =>
            intro j u hj
            match j, hj with
            | 0, hj => simp at hj; subst hj; simp [Addr.add, encI]
          case c2 => intro u hu; simp at hu; subst hu; rfl
          case c3 => have := HO.out.2.2.1; unfold maxLen; omega
          case c4 => have := HO.out.2.2.1; omega
          case c5 => simp; omega
          intro v' w2 hown' hgrow _
          have hb2 : Below (w.heap.size + 1) wA w2 := (HO.out.2.1.alloc (by omega) _).grown hgrow (by simp; omega) (fun j hj => ((HO.out.1.lt j hj)).1)
          have HR : Hid (w2.ownsRow (w.heap.size + 1) 3 1 v' (mdlTo s 5).length ((mdlTo s 5).map encI) ∧ Below (w.heap.size + 1) wA w2) := Lib.hid ⟨by rw [mdlTo_yes s 16 4 rfl (by rw [has_yes hb]; rfl)]; simpa using hown', hb2⟩
          clear hown' hgrow hb2
          go_wp2_with fail
          exact ⟨⟨5, 5, v', by omega, rfl, rfl, rfl, HR⟩, by simp [vI]⟩
    · obtain rfl : k = 5 := by omega
      obtain rfl : z = 5 := hz
      have HF : Hid (wr.ownsRow (w.heap.size + 1) 3 1 v (mdl s).length ((mdl s).map encI) ∧ Below w.heap.size w wr) := Lib.hid ⟨HR.out.1, HA.out.2.1.trans (HR.out.2.mono (by omega))⟩
      clear HR HA
      go_wp2_with fail
      go_ret
      exact ⟨_, rfl, HF.out.1, HF.out.2⟩
set_option maxRecDepth 100000 in
set_option maxHeartbeats 8000000 in
theorem ml_11 (s : Int) (w : World) (h1 : ¬ Go.bits .and .i64 s 1 = 0) (h8 : ¬ Go.bits .and .i64 s 8 = 0) :
    Calls Tryf.prog 11 #[.int .i64 s] w fun e w' => ∃ v, e = .returned v ∧ w'.ownsRow (w.heap.size + 1) 3 1 v (mdl s).length ((mdl s).map encI) ∧ Below w.heap.size w w' := by
  obtain ⟨i0, hi, hz0, hz1, hz2⟩ := info_parts infoI
  have WI := Lib.hid (And.intro hi (And.intro hz0 (And.intro hz1 hz2)))
  clear hi hz0 hz1 hz2
  have hd : dropB s = true := by unfold dropB; rw [has_yes h1, has_yes h8]; rfl
  have HD := Lib.hid hd
  clear hd
  have q1 : (Go.bits .and .i64 s 1 != 0) = true := by simp [h1]
  have q8 : (Go.bits .and .i64 s 8 != 0) = true := by simp [h8]
  go_enter Tryf.func11, Tryf.ntmps11
  go_wp2_with fail
  refine wp_gen (fun W' => AllAt W' w.heap.size ∧ Below w.heap.size w W' ∧ W'.heap.size = w.heap.size + 1) ⟨by refine ⟨?_, ?_, ?_, ?_, ?_⟩ <;> simp [go_sem], by go_grown, by simp⟩ ?_
  rintro wA ⟨hA, hbA, hsA⟩
  have HA := Lib.hid (And.intro hA (And.intro hbA hsA))
  clear hA hbA hsA
  go_loopw [5, 6] (fun o i wr => ∃ (k : Nat) (z : Int) (v : Value), k ≤ 5 ∧ z = k ∧ i = .int .i64 z ∧ v = o ∧ Hid (wr.ownsRow (w.heap.size + 1) 3 1 v (mdlTo s k).length ((mdlTo s k).map encI) ∧ Below (w.heap.size + 1) wA wr)) (fun _ i _ => 5 - (vI i).toNat)
  case atStart => exact ⟨0, 0, .slice none 0 0, by omega, rfl, rfl, rfl, Lib.hid ⟨⟨rfl, .inl ⟨rfl, rfl⟩⟩, Below.refl _ _⟩⟩
  case round =>
    obtain ⟨k, z, v, hk, hz, rfl, rfl, HR⟩ := hrel
    obtain ⟨a0, a1, a2, a3, a4⟩ := HA.out.1.below HR.out.2
    have zw : w.heap.size < wr.heap.size := by have := HR.out.2.size; have := HA.out.2.2; omega
    by_cases hlt : k < 5
    · rcases (show k = 0 ∨ k = 1 ∨ k = 2 ∨ k = 3 ∨ k = 4 by omega) with rfl | rfl | rfl | rfl | rfl
      · obtain rfl : z = 0 := hz
        have hown := HR.out.1
        have hbel := HR.out.2
        have hle := mdlTo_len s 0
        obtain ⟨hi, hz0, hz1, hz2⟩ := WI.out
        have HO := Lib.hid (And.intro hown (And.intro hbel (And.intro hle (And.intro hi (And.intro hz0 (And.intro hz1 hz2))))))
        clear hown hbel hle hi hz0 hz1 hz2 HR
        go_wp2_with (at_builtin; refine wpList_append_own _ rfl _ _ 38 rfl (w.heap.size + 1) 3 i0 (.int .i64 0) 1 8 Tryf.underlying38 HO.out.2.2.2.1 HO.out.2.2.2.2.1 HO.out.2.2.2.2.2.1 HO.out.2.2.2.2.2.2 rfl (by decide) _ _ _ rfl (HO.out.1.alloc _) ⟨wr.heap.size, 0, none⟩ 1 1 [encI 1] rfl rfl ?c1 ?c2 ?c3 ?c4 ?c5 ?_)
        case c1 =>
          intro j u hj
          match j, hj with
          | 0, hj => simp at hj; subst hj; simp [Addr.add, encI]
        case c2 => intro u hu; simp at hu; subst hu; rfl
        case c3 => have := HO.out.2.2.1; unfold maxLen; omega
        case c4 => have := HO.out.2.2.1; omega
        case c5 => simp; omega
        intro v' w2 hown' hgrow _
        have hb2 : Below (w.heap.size + 1) wA w2 := (HO.out.2.1.alloc (by omega) _).grown hgrow (by simp; omega) (fun j hj => ((HO.out.1.lt j hj)).1)
        have HR : Hid (w2.ownsRow (w.heap.size + 1) 3 1 v' (mdlTo s 1).length ((mdlTo s 1).map encI) ∧ Below (w.heap.size + 1) wA w2) := Lib.hid ⟨by rw [mdlTo_yes s 1 0 rfl (by rw [has_yes h1]; rfl)]; simpa using hown', hb2⟩
        clear hown' hgrow hb2
        go_wp2_with fail
        exact ⟨⟨1, 1, v', by omega, rfl, rfl, rfl, HR⟩, by simp [vI]⟩
      · obtain rfl : z = 1 := hz
        by_cases hb : Go.bits .and .i64 s 2 = 0
        · rw [← mdlTo_no s 2 1 rfl (by rw [has_no hb]; rfl)] at HR
          go_wp2_with fail
          exact ⟨⟨2, 2, v, by omega, rfl, rfl, rfl, HR⟩, by simp [vI]⟩
        · have hown := HR.out.1
          have hbel := HR.out.2
          have hle := mdlTo_len s 1
          obtain ⟨hi, hz0, hz1, hz2⟩ := WI.out
          have HO := Lib.hid (And.intro hown (And.intro hbel (And.intro hle (And.intro hi (And.intro hz0 (And.intro hz1 hz2))))))
          clear hown hbel hle hi hz0 hz1 hz2 HR
          go_wp2_with (at_builtin; refine wpList_append_own _ rfl _ _ 38 rfl (w.heap.size + 1) 3 i0 (.int .i64 0) 1 8 Tryf.underlying38 HO.out.2.2.2.1 HO.out.2.2.2.2.1 HO.out.2.2.2.2.2.1 HO.out.2.2.2.2.2.2 rfl (by decide) _ _ _ rfl (HO.out.1.alloc _) ⟨wr.heap.size, 0, none⟩ 1 1 [encI 2] rfl rfl ?c1 ?c2 ?c3 ?c4 ?c5 ?_)
          case c1 =>
            intro j u hj
            match j, hj with
            | 0, hj => simp at hj; subst hj; simp [Addr.add, encI]
          case c2 => intro u hu; simp at hu; subst hu; rfl
          case c3 => have := HO.out.2.2.1; unfold maxLen; omega
          case c4 => have := HO.out.2.2.1; omega
          case c5 => simp; omega
          intro v' w2 hown' hgrow _
          have hb2 : Below (w.heap.size + 1) wA w2 := (HO.out.2.1.alloc (by omega) _).grown hgrow (by simp; omega) (fun j hj => ((HO.out.1.lt j hj)).1)
          have HR : Hid (w2.ownsRow (w.heap.size + 1) 3 1 v' (mdlTo s 2).length ((mdlTo s 2).map encI) ∧ Below (w.heap.size + 1) wA w2) := Lib.hid ⟨by rw [mdlTo_yes s 2 1 rfl (by rw [has_yes hb]; rfl)]; simpa using hown', hb2⟩
          clear hown' hgrow hb2
          go_wp2_with fail
          exact ⟨⟨2, 2, v', by omega, rfl, rfl, rfl, HR⟩, by simp [vI]⟩
      · obtain rfl : z = 2 := hz
        by_cases hb : Go.bits .and .i64 s 4 = 0
        · rw [← mdlTo_no s 4 2 rfl (by rw [has_no hb]; rfl)] at HR
          go_wp2_with fail
          exact ⟨⟨3, 3, v, by omega, rfl, rfl, rfl, HR⟩, by simp [vI]⟩
        · have hown := HR.out.1
          have hbel := HR.out.2
          have hle := mdlTo_len s 2
          obtain ⟨hi, hz0, hz1, hz2⟩ := WI.out
          have HO := Lib.hid (And.intro hown (And.intro hbel (And.intro hle (And.intro hi (And.intro hz0 (And.intro hz1 hz2))))))
          clear hown hbel hle hi hz0 hz1 hz2 HR
          go_wp2_with (at_builtin; refine wpList_append_own _ rfl _ _ 38 rfl (w.heap.size + 1) 3 i0 (.int .i64 0) 1 8 Tryf.underlying38 HO.out.2.2.2.1 HO.out.2.2.2.2.1 HO.out.2.2.2.2.2.1 HO.out.2.2.2.2.2.2 rfl (by decide) _ _ _ rfl (HO.out.1.alloc _) ⟨wr.heap.size, 0, none⟩ 1 1 [encI 4] rfl rfl ?c1 ?c2 ?c3 ?c4 ?c5 ?_)
          case c1 =>
            intro j u hj
            match j, hj with
            | 0, hj => simp at hj; subst hj; simp [Addr.add, encI]
          case c2 => intro u hu; simp at hu; subst hu; rfl
          case c3 => have := HO.out.2.2.1; unfold maxLen; omega
          case c4 => have := HO.out.2.2.1; omega
          case c5 => simp; omega
          intro v' w2 hown' hgrow _
          have hb2 : Below (w.heap.size + 1) wA w2 := (HO.out.2.1.alloc (by omega) _).grown hgrow (by simp; omega) (fun j hj => ((HO.out.1.lt j hj)).1)
          have HR : Hid (w2.ownsRow (w.heap.size + 1) 3 1 v' (mdlTo s 3).length ((mdlTo s 3).map encI) ∧ Below (w.heap.size + 1) wA w2) := Lib.hid ⟨by rw [mdlTo_yes s 4 2 rfl (by rw [has_yes hb]; rfl)]; simpa using hown', hb2⟩
          clear hown' hgrow hb2
          go_wp2_with fail
          exact ⟨⟨3, 3, v', by omega, rfl, rfl, rfl, HR⟩, by simp [vI]⟩
      · obtain rfl : z = 3 := hz
        rw [← mdlTo_no s 8 3 rfl (by rw [has_yes h8, HD.out]; rfl)] at HR
        go_wp2_with fail
        exact ⟨⟨4, 4, v, by omega, rfl, rfl, rfl, HR⟩, by simp [vI]⟩
      · obtain rfl : z = 4 := hz
        by_cases hb : Go.bits .and .i64 s 16 = 0
        · rw [← mdlTo_no s 16 4 rfl (by rw [has_no hb]; rfl)] at HR
          go_wp2_with fail
          exact ⟨⟨5, 5, v, by omega, rfl, rfl, rfl, HR⟩, by simp [vI]⟩
        · have hown := HR.out.1
          have hbel := HR.out.2
          have hle := mdlTo_len s 4
          obtain ⟨hi, hz0, hz1, hz2⟩ := WI.out
          have HO := Lib.hid (And.intro hown (And.intro hbel (And.intro hle (And.intro hi (And.intro hz0 (And.intro hz1 hz2))))))
          clear hown hbel hle hi hz0 hz1 hz2 HR
          go_wp2_with (at_builtin; refine wpList_append_own _ rfl _ _ 38 rfl (w.heap.size + 1) 3 i0 (.int .i64 0) 1 8 Tryf.underlying38 HO.out.2.2.2.1 HO.out.2.2.2.2.1 HO.out.2.2.2.2.2.1 HO.out.2.2.2.2.2.2 rfl (by decide) _ _ _ rfl (HO.out.1.alloc _) ⟨wr.heap.size, 0, none⟩ 1 1 [encI 16] rfl rfl ?c1 ?c2 ?c3 ?c4 ?c5 ?_)
          case c1 =>
            intro j u hj
            match j, hj with
            | 0, hj => simp at hj; subst hj; simp [Addr.add, encI]
          case c2 => intro u hu; simp at hu; subst hu; rfl
          case c3 => have := HO.out.2.2.1; unfold maxLen; omega
          case c4 => have := HO.out.2.2.1; omega
          case c5 => simp; omega
          intro v' w2 hown' hgrow _
          have hb2 : Below (w.heap.size + 1) wA w2 := (HO.out.2.1.alloc (by omega) _).grown hgrow (by simp; omega) (fun j hj => ((HO.out.1.lt j hj)).1)
          have HR : Hid (w2.ownsRow (w.heap.size + 1) 3 1 v' (mdlTo s 5).length ((mdlTo s 5).map encI) ∧ Below (w.heap.size + 1) wA w2) := Lib.hid ⟨by rw [mdlTo_yes s 16 4 rfl (by rw [has_yes hb]; rfl)]; simpa using hown', hb2⟩
          clear hown' hgrow hb2
          go_wp2_with fail
          exact ⟨⟨5, 5, v', by omega, rfl, rfl, rfl, HR⟩, by simp [vI]⟩
    · obtain rfl : k = 5 := by omega
      obtain rfl : z = 5 := hz
      have HF : Hid (wr.ownsRow (w.heap.size + 1) 3 1 v (mdl s).length ((mdl s).map encI) ∧ Below w.heap.size w wr) := Lib.hid ⟨HR.out.1, HA.out.2.1.trans (HR.out.2.mono (by omega))⟩
      clear HR HA
      go_wp2_with fail
      go_ret
      exact ⟨_, rfl, HF.out.1, HF.out.2⟩
theorem ml_any (s : Int) (w : World) :
    Calls Tryf.prog 11 #[.int .i64 s] w fun e w' => ∃ v, e = .returned v ∧ w'.ownsRow (w.heap.size + 1) 3 1 v (mdl s).length ((mdl s).map encI) ∧ Below w.heap.size w w' := by
  by_cases h1 : Go.bits .and .i64 s 1 = 0
  · by_cases h8 : Go.bits .and .i64 s 8 = 0
    · exact ml_00 s w h1 h8
    · exact ml_01 s w h1 h8
  · by_cases h8 : Go.bits .and .i64 s 8 = 0
    · exact ml_10 s w h1 h8
    · exact ml_11 s w h1 h8
end Go.Proofs.YthdbfebfgomnpaaFmt
