/- The model's bytes of a part: verbatim, or with the backslashes dropped. Conditions: the string's size. -/
import Derived.Test.YtdmmpgeaendjpaaGrow
import Derived.Laws.MakeOwn
namespace Go.Proofs.Ytdmmpgeaendjpaa
open Go.RowKit
set_option linter.unusedVariables false
set_option linter.unusedSimpArgs false

/-- the bytes of a string -/
def bl (s : ByteArray) : List Int := s.data.toList.map (fun b => (b.toNat : Int))
theorem bl_len (s : ByteArray) : (bl s).length = s.size := by
  simp only [bl, List.length_map, Array.length_toList]
  rfl
theorem bl_at (s : ByteArray) (k : Nat) (h : k < s.size) : (bl s).getD k 0 = ((s[k]'h).toNat : Int) := by
  have hl : k < (bl s).length := by rw [bl_len]; exact h
  simp only [List.getD, List.getElem?_eq_getElem hl, Option.getD_some]
  simp only [bl, List.getElem_map]
  rfl
theorem bl_drop (s : ByteArray) (k : Nat) (h : k < s.size) : (bl s).drop k = ((s[k]'h).toNat : Int) :: (bl s).drop (k + 1) := by
  have hl : k < (bl s).length := by rw [bl_len]; exact h
  rw [List.drop_eq_getElem_cons hl, ← bl_at s k h]
  congr 1
  simp [List.getD, hl]
theorem bl_end (s : ByteArray) (k : Nat) (h : s.size ≤ k) : (bl s).drop k = [] := List.drop_eq_nil_of_le (by rw [bl_len]; exact h)
/-- the bytes with unescaped backslashes dropped -/
def uesc : List Int → Bool → List Int
  | [], _ => []
  | b :: l, true => b :: uesc l false
  | b :: l, false => if b = 92 then uesc l true else b :: uesc l false
/-- is there an unescaped backslash -/
def uq : List Int → Bool → Bool
  | [], _ => false
  | b :: l, true => uq l false
  | b :: l, false => if b = 92 then true else uq l false
theorem uesc_len (l : List Int) : ∀ e, (uesc l e).length ≤ l.length := by
  induction l with
  | nil => intro e; simp [uesc]
  | cons b l ih =>
    intro e
    cases e
    · simp only [uesc]
      split
      · have := ih true; simp; omega
      · have := ih false; simp; omega
    · have := ih false; simp [uesc]; omega
theorem uesc_t (b : Int) (l : List Int) : uesc (b :: l) true = b :: uesc l false := rfl
theorem uesc_b (l : List Int) : uesc (92 :: l) false = uesc l true := by simp [uesc]
theorem uesc_o (b : Int) (l : List Int) (h : ¬ b = 92) : uesc (b :: l) false = b :: uesc l false := by simp [uesc, h]
theorem uq_t (b : Int) (l : List Int) : uq (b :: l) true = uq l false := rfl
theorem uq_b (l : List Int) : uq (92 :: l) false = true := by simp [uq]
theorem uq_o (b : Int) (l : List Int) (h : ¬ b = 92) : uq (b :: l) false = uq l false := by simp [uq, h]
/-- what a loop has done and what is left to do -/
def Part (R done rest : List Int) : Prop := done ++ rest = R
def PartQ (Q q r : Bool) : Prop := (q || r) = Q
theorem infoB : (Try.prog.info? 5).map (fun i => (i.zero, i.size, i.bytes)) = some (some (.int .u8 0), 1, 1) := by kernel_rfl
set_option maxRecDepth 100000 in
set_option maxHeartbeats 1000000 in
theorem vb_any (s : ByteArray) (w : World) (hs : s.size ≤ 1048576) :
    Calls Try.prog 26 #[.string s] w fun e w' => e = .returned (.slice (some ⟨w.heap.size, 0, none⟩) s.size s.size) ∧ w'.ownsRow w.heap.size 5 1 (.slice (some ⟨w.heap.size, 0, none⟩) s.size s.size) s.size (bc (bl s)) ∧ Below w.heap.size w w' := by
  obtain ⟨i0, hi, hz0, hz1, hz2⟩ := info_parts infoB
  go_enter Try.func26, Try.ntmps26
  go_wp2_with (first | (at_make; (refine wpList_make_full _ rfl _ _ 22 rfl w.heap.size 5 i0 (.int .u8 0) 1 Try.underlying22 hi hz0 hz1 _ _ _ _ s.size rfl rfl rfl rfl (by rw [hz2]; omega) (by unfold maxLen; omega) (Nat.le_refl _) ?_); intro w1 hown hgrow))
  rw [made_cells _ _ rfl, ← partRow_zero .u8 (bl s) s.size] at hown
  have hbel : Below w.heap.size w w1 := (Below.refl _ _).grown hgrow (Nat.le_refl _) (by simp)
  clear hgrow hi hz0 hz1 hz2
  go_loopw [4] (fun i wr => ∃ k : Nat, k ≤ s.size ∧ i = .int .i64 k ∧ wr.ownsRow w.heap.size 5 1 (.slice (some ⟨w.heap.size, 0, none⟩) s.size s.size) s.size (partRow .u8 (bl s) s.size k) ∧ Below w.heap.size w wr) (fun i _ => s.size - (intOf i).toNat)
  case atStart => exact ⟨0, Nat.zero_le _, rfl, hown, hbel⟩
  case round =>
    obtain ⟨k, hk, rfl, hown, hbel⟩ := hrel
    by_cases hlt : k < s.size
    · have c2 : wr.cell? ⟨w.heap.size, k, none⟩ = some (.int .u8 0) := by
        rw [hown.cellAt k (by omega)]
        exact partRow_at .u8 (bl s) s.size k hlt (by rw [bl_len]; omega)
      have f2 := hown.frozenAt k
      have HO := Lib.hid hown
      clear hown
      go_wp2
      go_roundw
      case rel =>
        have hs2 := (HO.out.stored k (.int .u8 ((bl s).getD k 0))).1
        rw [partRow_set .u8 (bl s) s.size k hlt (by rw [bl_len]; omega), bl_at s k hlt] at hs2
        exact ⟨k + 1, by omega, by go_num, hs2, hbel.setCell (Nat.le_refl _) _⟩
      case measure => simp [intOf]; omega
    · obtain rfl : k = s.size := by omega
      have e : partRow .u8 (bl s) s.size s.size = bc (bl s) := by rw [partRow_all, List.take_of_length_le (by rw [bl_len]; omega)]; rfl
      rw [e] at hown
      have HO := Lib.hid hown
      clear hown e
      go_wp2
      go_ret
      exact ⟨rfl, HO.out, hbel⟩
set_option maxRecDepth 100000 in
set_option maxHeartbeats 2000000 in
theorem ue_any (s : ByteArray) (w : World) (hs : s.size ≤ 1048576) :
    Calls Try.prog 27 #[.string s] w fun e w' => e = .returned (.tuple #[.slice (some ⟨w.heap.size, 0, none⟩) (uesc (bl s) false).length s.size, .bool (uq (bl s) false)]) ∧ w'.ownsRow w.heap.size 5 1 (.slice (some ⟨w.heap.size, 0, none⟩) (uesc (bl s) false).length s.size) (uesc (bl s) false).length (bc (uesc (bl s) false)) ∧ Below w.heap.size w w' := by
  obtain ⟨R, eR⟩ : ∃ R, uesc (bl s) false = R := ⟨_, rfl⟩
  obtain ⟨Q, eQ⟩ : ∃ Q, uq (bl s) false = Q := ⟨_, rfl⟩
  have hRl : R.length ≤ s.size := by rw [← eR, ← bl_len]; exact uesc_len _ _
  rw [eR, eQ]
  have HR := Lib.hid eR
  have HQ := Lib.hid eQ
  clear eR eQ
  obtain ⟨i0, hi, hz0, hz1, hz2⟩ := info_parts infoB
  have WI := Lib.hid (And.intro hi (And.intro hz1 hz2))
  have WZ := Lib.hid hz0
  clear hi hz0 hz1 hz2
  go_enter Try.func27, Try.ntmps27
  go_wp2_with (first | (at_make; (refine wpList_make_own _ rfl _ _ 22 rfl w.heap.size 5 i0 (.int .u8 0) 1 Try.underlying22 WI.out.1 WZ.out WI.out.2.1 _ _ _ s.size rfl rfl rfl (by rw [WI.out.2.2]; omega) (by unfold maxLen; omega) (Nat.le_refl _) ?_); intro w1 hown hgrow))
  have hbel : Below w.heap.size w w1 := (Below.refl _ _).grown hgrow (Nat.le_refl _) (by simp)
  have HO := Lib.hid hown
  clear hgrow hown
  go_loopw [4, 5, 6, 7] (fun v e q i wr => ∃ k : Nat, ∃ eb qb : Bool, ∃ done : List Int, k ≤ s.size ∧ i = .int .i64 k ∧ e = .bool eb ∧ q = .bool qb ∧ v = .slice (some ⟨w.heap.size, 0, none⟩) done.length s.size ∧ done.length ≤ k ∧ Part R done (uesc ((bl s).drop k) eb) ∧ PartQ Q qb (uq ((bl s).drop k) eb) ∧ Hid (wr.ownsRow w.heap.size 5 1 (.slice (some ⟨w.heap.size, 0, none⟩) done.length s.size) done.length (bc done)) ∧ Below w.heap.size w wr) (fun _ _ _ i _ => s.size - (intOf i).toNat)
  case atStart => exact ⟨0, false, false, [], Nat.zero_le _, rfl, rfl, rfl, rfl, Nat.le_refl _, HR.out, HQ.out, HO, hbel⟩
  case round =>
    obtain ⟨k, eb, qb, done, hk, rfl, rfl, rfl, rfl, hdk, hp, hq, HW, hbel⟩ := hrel
    clear HO HR HQ
    have HP := Lib.hid hp
    have HQ := Lib.hid hq
    have hzw := hbel.size
    clear hp hq
    by_cases hlt : k < s.size
    · have hD := bl_drop s k hlt
      have HD := Lib.hid hD
      have hbb : 0 ≤ ((s[k]'hlt).toNat : Int) ∧ ((s[k]'hlt).toNat : Int) ≤ 255 := by have := (s[k]'hlt).toNat_lt; omega
      clear hD
      cases eb
      · by_cases h92 : ((s[k]'hlt).toNat : Int) = 92
        · have hb : (((s[k]'hlt).toNat : Int) == 92) = true := by simp [h92]
          have HP2 := Lib.hid (show Part R done (uesc ((bl s).drop (k + 1)) true) by have := HP.out; rw [HD.out, h92, uesc_b] at this; exact this)
          have HQ2 := Lib.hid (show PartQ Q true (uq ((bl s).drop (k + 1)) true) by have := HQ.out; rw [HD.out, h92, uq_b] at this; unfold PartQ at this ⊢; rw [← this]; simp)
          clear h92 HP HQ HD
          go_wp2_with fail
          go_roundw
          case rel => exact ⟨k + 1, true, true, done, by omega, by go_num, rfl, rfl, rfl, by omega, HP2.out, HQ2.out, HW, hbel⟩
          case measure => simp [intOf]; omega
        · have hb : (((s[k]'hlt).toNat : Int) == 92) = false := by simp [h92]
          have HP2 := Lib.hid (show Part R (done ++ [((s[k]'hlt).toNat : Int)]) (uesc ((bl s).drop (k + 1)) false) by have := HP.out; rw [HD.out, uesc_o _ _ h92] at this; unfold Part at this ⊢; rw [← this]; simp)
          have HQ2 := Lib.hid (show PartQ Q qb (uq ((bl s).drop (k + 1)) false) by have := HQ.out; rw [HD.out, uq_o _ _ h92] at this; exact this)
          clear h92 HP HQ HD
          go_wp2_with (first | (at_builtin; (refine wpList_append_fits _ rfl _ _ 22 rfl w.heap.size 5 i0 1 Try.underlying22 WI.out.1 WI.out.2.1 w.heap.size done.length s.size (bc done) rfl (HW.out.kept (grownBelow (by go_grown) none) (.inr (by simp [Value.ownBlock]))) _ 1 1 [.int .u8 ((s[k]'hlt).toNat : Int)] rfl rfl (by intro j u h; rcases j with _ | j <;> simp at h <;> (try subst h) <;> simp [Addr.add, go_sem]) (by simp [Value.oneCell']) (by omega) ?_); intro w4 hown4 hg4; have H4 := Lib.hid (And.intro hown4 hg4); clear hown4 hg4))
          go_roundw
          case rel => exact ⟨k + 1, false, qb, done ++ [((s[k]'hlt).toNat : Int)], by omega, by go_num, rfl, rfl, by simp, by simp; omega, HP2.out, HQ2.out, Lib.hid (by simpa [bc] using H4.out.1), (hbel.alloc hzw _).grown H4.out.2 (by simp; omega) (by intro g e; cases e; exact Nat.le_refl _)⟩
          case measure => simp [intOf]; omega
      · have HP2 := Lib.hid (show Part R (done ++ [((s[k]'hlt).toNat : Int)]) (uesc ((bl s).drop (k + 1)) false) by have := HP.out; rw [HD.out, uesc_t] at this; unfold Part at this ⊢; rw [← this]; simp)
        have HQ2 := Lib.hid (show PartQ Q qb (uq ((bl s).drop (k + 1)) false) by have := HQ.out; rw [HD.out, uq_t] at this; exact this)
        clear HP HQ HD
        go_wp2_with (first | (at_builtin; (refine wpList_append_fits _ rfl _ _ 22 rfl w.heap.size 5 i0 1 Try.underlying22 WI.out.1 WI.out.2.1 w.heap.size done.length s.size (bc done) rfl (HW.out.kept (grownBelow (by go_grown) none) (.inr (by simp [Value.ownBlock]))) _ 1 1 [.int .u8 ((s[k]'hlt).toNat : Int)] rfl rfl (by intro j u h; rcases j with _ | j <;> simp at h <;> (try subst h) <;> simp [Addr.add, go_sem]) (by simp [Value.oneCell']) (by omega) ?_); intro w4 hown4 hg4; have H4 := Lib.hid (And.intro hown4 hg4); clear hown4 hg4))
        go_roundw
        case rel => exact ⟨k + 1, false, qb, done ++ [((s[k]'hlt).toNat : Int)], by omega, by go_num, rfl, rfl, by simp, by simp; omega, HP2.out, HQ2.out, Lib.hid (by simpa [bc] using H4.out.1), (hbel.alloc hzw _).grown H4.out.2 (by simp; omega) (by intro g e; cases e; exact Nat.le_refl _)⟩
        case measure => simp [intOf]; omega
    · obtain rfl : k = s.size := by omega
      have e1 : done = R := by have := HP.out; rw [bl_end s _ (Nat.le_refl _)] at this; unfold Part at this; cases eb <;> simpa [uesc] using this
      have e2 : qb = Q := by have := HQ.out; rw [bl_end s _ (Nat.le_refl _)] at this; unfold PartQ at this; cases eb <;> simpa [uq] using this
      subst e1 e2
      clear HP HQ
      go_wp2_with fail
      go_ret2
      exact ⟨rfl, HW.out, hbel⟩
end Go.Proofs.Ytdmmpgeaendjpaa
