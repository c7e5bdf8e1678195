/- What unquotedWordPart appends for each kind of part, and what the law's model says of it. Conditions: sizes as the law bounds them. -/
import Derived.Test.YtdmmpgeaendjpaaUnq
import Derived.Test.YtdmmpgeaendjpaaAsserts
import Derived.Laws.IdiomStrings
namespace Go.Proofs.Ytdmmpgeaendjpaa
open Go.RowKit
set_option linter.unusedVariables false
set_option linter.unusedSimpArgs false

def mbytes (k : Int) (s : ByteArray) (quotes : Bool) : List Int := if k = 3 then [] else if k = 0 ∧ quotes = false then uesc (bl s) false else bl s
def mquote (k : Int) (s : ByteArray) (quotes : Bool) : Bool := if k = 3 then false else if k = 0 then (if quotes then false else uq (bl s) false) else true
theorem mbytes_len (k : Int) (s : ByteArray) (q : Bool) : (mbytes k s q).length ≤ s.size := by
  unfold mbytes
  split
  · simp
  · split
    · rw [← bl_len]; exact uesc_len _ _
    · rw [bl_len]; exact Nat.le_refl _
def MPost (w : World) (xs : List Int) (q : Bool) (e : Ending) (w' : World) : Prop :=
  ∃ A c, e = .returned (.tuple #[.slice A xs.length c, .bool q]) ∧ w'.ownsRow w.heap.size 5 1 (.slice A xs.length c) xs.length (bc xs) ∧ Below w.heap.size w w'
theorem MPost.of {w w' : World} {xs : List Int} {q : Bool} {e : Ending} {A : Option Addr} {n c : Nat} (hn : n = xs.length) (he : e = .returned (.tuple #[.slice A n c, .bool q])) (ho : w'.ownsRow w.heap.size 5 1 (.slice A n c) n (bc xs)) (hb : Below w.heap.size w w') : MPost w xs q e w' := by
  subst hn; exact ⟨A, c, he, ho, hb⟩
set_option maxRecDepth 100000 in
set_option maxHeartbeats 2000000 in
theorem mp_any (kind : Int) (s : ByteArray) (quotes : Bool) (w : World) (hk : 0 ≤ kind ∧ kind ≤ 255) (hs : s.size ≤ 1048576) :
    Calls Try.prog 11 #[.int .u8 kind, .string s, .bool quotes] w (MPost w (mbytes (kind % 5) s quotes) (mquote (kind % 5) s quotes)) := by
  obtain ⟨K, eK⟩ : ∃ K, kind % 5 = K := ⟨_, rfl⟩
  by_cases h3 : K = 3
  · subst h3
    have e0 : (kind % 5 == 0) = false := by simp [eK]
    have e3 : (kind % 5 == 3) = true := by simp [eK]
    rw [eK]
    clear eK
    go_enter Try.func11, Try.ntmps11
    go_wp2_with fail
    go_ret2
    exact ⟨none, 0, rfl, World.ownsRow_nil _ _ _ _, by go_grown⟩
  by_cases h0 : K = 0
  · subst h0
    have e0 : (kind % 5 == 0) = true := by simp [eK]
    rw [eK]
    clear eK
    cases quotes
    · go_enter Try.func11, Try.ntmps11
      go_wp2_with (go_at_call 27; refine (ue_any s _ hs).mono ?_; rintro e w1 ⟨rfl, ho, hb⟩; have H := Lib.hid (And.intro ho hb); clear ho hb)
      go_ret2
      exact ⟨_, _, rfl, H.out⟩
    · have m1 : mbytes 0 s true = bl s := by simp [mbytes]
      have m2 : mquote 0 s true = false := rfl
      rw [m1, m2]
      clear m1 m2
      go_enter Try.func11, Try.ntmps11
      go_wp2_with (go_at_call 26; refine (vb_any s _ hs).mono ?_; rintro e w1 ⟨rfl, ho, hb⟩; have H := Lib.hid (And.intro ho hb); clear ho hb)
      go_ret2
      exact MPost.of (bl_len s).symm rfl H.out.1 H.out.2
  · have e0 : (kind % 5 == 0) = false := by simp [eK, h0]
    have e3 : (kind % 5 == 3) = false := by simp [eK, h3]
    have m1 : mbytes K s quotes = bl s := by simp [mbytes, h0, h3]
    have m2 : mquote K s quotes = true := by simp [mquote, h0, h3]
    rw [eK, m1, m2]
    clear eK m1 m2 h0 h3
    go_enter Try.func11, Try.ntmps11
    go_wp2_with (go_at_call 26; refine (vb_any s _ hs).mono ?_; rintro e w1 ⟨rfl, ho, hb⟩; have H := Lib.hid (And.intro ho hb); clear ho hb)
    go_ret2
    exact MPost.of (bl_len s).symm rfl H.out.1 H.out.2
/-- buf, that held xs, holds xs and ys now -/
def UPost (w : World) (v : Value) (xs ys : List Int) (q : Bool) (e : Ending) (w' : World) : Prop :=
  ∃ v', e = .returned (.tuple #[v', .bool q]) ∧ Grow 5 w v.ownBlock w' v' (xs ++ ys).length (bc (xs ++ ys))
set_option maxRecDepth 100000 in
set_option maxHeartbeats 4000000 in
theorem up_lit (P : Option Addr) (v : Value) (xs : List Int) (b : Nat) (s : ByteArray) (w : World) (hs : s.size ≤ 1048576) (hxs : xs.length ≤ 2097152) (hown : w.ownsRow 0 5 1 v xs.length (bc xs)) (hc : w.cell? ⟨b, 4, none⟩ = some (.string s)) (hne : some b ≠ v.ownBlock) :
    Calls Try.prog 29 #[.pointer P, v, .iface 83 (.pointer (some ⟨b, 0, none⟩)), .bool false] w (UPost w v xs (uesc (bl s) false) (uq (bl s) false)) := by
  have hbz : b < w.heap.size := by have := World.block_lt_of_cell? _ _ hc; simpa using this
  obtain ⟨R, eR⟩ : ∃ R, uesc (bl s) false = R := ⟨_, rfl⟩
  obtain ⟨Q, eQ⟩ : ∃ Q, uq (bl s) false = Q := ⟨_, rfl⟩
  have hRl : R.length ≤ s.size := by rw [← eR, ← bl_len]; exact uesc_len _ _
  rw [eR, eQ]
  have HR := Lib.hid eR
  have HQ := Lib.hid eQ
  clear eR eQ
  obtain ⟨i0, hi, hz0, hz1, hz2⟩ := info_parts infoB
  have WI := Lib.hid (And.intro hi (And.intro hz1 hz2))
  have WZ := Lib.hid hz0
  have HG := Lib.hid (Grow.start hown)
  have HN := Lib.hid hne
  have HC := Lib.hid hc
  clear hi hz0 hz1 hz2 hown hne hc
  obtain ⟨g0, eg⟩ : ∃ g0, v.ownBlock = g0 := ⟨_, rfl⟩
  rw [eg] at HG HN
  have Eg := Lib.hid eg
  clear eg
  have ta := as_WordPart_Lit_Lit
  go_enter Try.func29, Try.ntmps29
  go_wp2_with fail
  clear ta
  go_loopw [1, 9, 11] (fun vr q i wr => ∃ v1 : Value, ∃ k : Nat, ∃ qb : Bool, ∃ done : List Int, v1 = vr ∧ k ≤ s.size + 1 ∧ i = .int .i64 k ∧ q = .bool qb ∧ done.length ≤ k ∧ Part R done (uesc ((bl s).drop k) false) ∧ PartQ Q qb (uq ((bl s).drop k) false) ∧ Hid (Grow 5 w g0 wr v1 (xs ++ done).length (bc (xs ++ done)))) (fun _ _ i _ => s.size + 1 - (intOf i).toNat)
  case atStart => exact ⟨v, 0, false, [], rfl, by omega, rfl, rfl, Nat.le_refl _, HR.out, HQ.out, Lib.hid (by simpa using HG.out)⟩
  case round =>
    obtain ⟨v1, k, qb, done, rfl, hk, rfl, rfl, hdk, hp, hq, HG1⟩ := hrel
    clear HR HQ HG
    have hcw : wr.cell? ⟨b, 4, none⟩ = some (.string s) := by
      rw [World.cell?_of_block (HG1.out.1.block b hbz HN.out)]; exact HC.out
    have hbw : b < wr.heap.size := Nat.lt_of_lt_of_le hbz HG1.out.1.size
    have HP := Lib.hid hp
    have HQ := Lib.hid hq
    have HB : (xs ++ done).length + 1 ≤ 1073741824 := by rw [List.length_append]; omega
    clear hp hq
    by_cases hlt : k < s.size
    · have HD := Lib.hid (bl_drop s k hlt)
      have hbb : 0 ≤ ((s[k]'hlt).toNat : Int) ∧ ((s[k]'hlt).toNat : Int) ≤ 255 := by have := (s[k]'hlt).toNat_lt; omega
      by_cases h92 : ((s[k]'hlt).toNat : Int) = 92
      · have hb : (((s[k]'hlt).toNat : Int) == 92) = true := by simp [h92]
        have HP2 := Lib.hid (show Part R done (uesc ((bl s).drop (k + 1)) true) by have := HP.out; rw [HD.out, h92, uesc_b] at this; exact this)
        have HQ2 := Lib.hid (show Q = true by have := HQ.out; rw [HD.out, h92, uq_b] at this; unfold PartQ at this; rw [← this]; simp)
        clear h92 HP HQ HD
        by_cases hlt2 : k + 1 < s.size
        · have HD := Lib.hid (bl_drop s (k + 1) hlt2)
          have HP3 := Lib.hid (show Part R (done ++ [((s[k + 1]'hlt2).toNat : Int)]) (uesc ((bl s).drop (k + 2)) false) by have := HP2.out; rw [HD.out, uesc_t] at this; unfold Part at this ⊢; rw [← this]; simp)
          clear HP2 HD
          go_wp2_with (first | (at_builtin; (refine wpList_append_grow _ rfl _ _ 22 rfl 5 i0 Try.underlying22 WI.out.1 WZ.out WI.out.2.1 WI.out.2.2 w g0 v1 (xs ++ done).length (bc (xs ++ done)) rfl (HG1.out.alloc _) _ 1 1 [.int .u8 ((s[k + 1]'hlt2).toNat : Int)] rfl rfl (by intro j u h; rcases j with _ | j <;> simp at h <;> (try subst h) <;> simp [Addr.add, go_sem]) (by simp [Value.oneCell']) HB ?_); intro v4 w4 hg4; have H4 := Lib.hid hg4; clear hg4))
          go_roundw
          case rel => exact ⟨_, k + 2, true, done ++ [((s[k + 1]'hlt2).toNat : Int)], rfl, by omega, by go_num, rfl, by simp; omega, HP3.out, by rw [HQ2.out]; rfl, Lib.hid (by have := H4.out; simpa [bc, Nat.add_assoc] using this)⟩
          case measure => simp [intOf]; omega
        · have HP3 := Lib.hid (show Part R done (uesc ((bl s).drop (k + 2)) false) by have := HP2.out; rw [bl_end s (k + 1) (by omega)] at this; rw [bl_end s (k + 2) (by omega)]; exact this)
          clear HP2
          go_wp2_with fail
          go_roundw
          case rel => exact ⟨_, k + 2, true, done, rfl, by omega, by go_num, rfl, by omega, HP3.out, by rw [HQ2.out]; rfl, HG1⟩
          case measure => simp [intOf]; omega
      · have hb : (((s[k]'hlt).toNat : Int) == 92) = false := by simp [h92]
        have HP2 := Lib.hid (show Part R (done ++ [((s[k]'hlt).toNat : Int)]) (uesc ((bl s).drop (k + 1)) false) by have := HP.out; rw [HD.out, uesc_o _ _ h92] at this; unfold Part at this ⊢; rw [← this]; simp)
        have HQ2 := Lib.hid (show PartQ Q qb (uq ((bl s).drop (k + 1)) false) by have := HQ.out; rw [HD.out, uq_o _ _ h92] at this; exact this)
        clear h92 HP HQ HD
        go_wp2_with (first | (at_builtin; (refine wpList_append_grow _ rfl _ _ 22 rfl 5 i0 Try.underlying22 WI.out.1 WZ.out WI.out.2.1 WI.out.2.2 w g0 v1 (xs ++ done).length (bc (xs ++ done)) rfl (HG1.out.alloc _) _ 1 1 [.int .u8 ((s[k]'hlt).toNat : Int)] rfl rfl (by intro j u h; rcases j with _ | j <;> simp at h <;> (try subst h) <;> simp [Addr.add, go_sem]) (by simp [Value.oneCell']) HB ?_); intro v4 w4 hg4; have H4 := Lib.hid hg4; clear hg4))
        go_roundw
        case rel => exact ⟨_, k + 1, qb, done ++ [((s[k]'hlt).toNat : Int)], rfl, by omega, by go_num, rfl, by simp; omega, HP2.out, HQ2.out, Lib.hid (by have := H4.out; simpa [bc, Nat.add_assoc] using this)⟩
        case measure => simp [intOf]; omega
    · have e1 : done = R := by have := HP.out; rw [bl_end s _ (by omega)] at this; unfold Part at this; simpa [uesc] using this
      have e2 : qb = Q := by have := HQ.out; rw [bl_end s _ (by omega)] at this; unfold PartQ at this; simpa [uq] using this
      subst e1 e2
      clear HP HQ
      go_wp2_with fail
      go_ret2
      exact ⟨_, rfl, by rw [Eg.out]; exact HG1.out⟩
set_option maxRecDepth 100000 in
set_option maxHeartbeats 4000000 in
theorem up_litq (P : Option Addr) (v : Value) (xs : List Int) (b : Nat) (s : ByteArray) (w : World) (hs : s.size ≤ 1048576) (hxs : xs.length ≤ 2097152) (hown : w.ownsRow 0 5 1 v xs.length (bc xs)) (hc : w.cell? ⟨b, 4, none⟩ = some (.string s)) (hne : some b ≠ v.ownBlock) :
    Calls Try.prog 29 #[.pointer P, v, .iface 83 (.pointer (some ⟨b, 0, none⟩)), .bool true] w (UPost w v xs (bl s) false) := by
  have hbz : b < w.heap.size := by have := World.block_lt_of_cell? _ _ hc; simpa using this
  obtain ⟨R, eR⟩ : ∃ R, bl s = R := ⟨_, rfl⟩
  have hRl : R.length = s.size := by rw [← eR, bl_len]
  have HRl := Lib.hid hRl
  rw [eR]
  have HR := Lib.hid (show (bl s).drop 0 = R from eR)
  have HE := Lib.hid eR
  clear eR hRl
  obtain ⟨i0, hi, hz0, hz1, hz2⟩ := info_parts infoB
  have WI := Lib.hid (And.intro hi (And.intro hz1 hz2))
  have WZ := Lib.hid hz0
  have HG := Lib.hid (Grow.start hown)
  have HN := Lib.hid hne
  have HC := Lib.hid hc
  clear hi hz0 hz1 hz2 hown hne hc
  obtain ⟨g0, eg⟩ : ∃ g0, v.ownBlock = g0 := ⟨_, rfl⟩
  rw [eg] at HG HN
  have Eg := Lib.hid eg
  clear eg
  have ta := as_WordPart_Lit_Lit
  go_enter Try.func29, Try.ntmps29
  go_wp2_with fail
  clear ta
  go_loopw [1, 9, 11] (fun vr q i wr => ∃ v1 : Value, ∃ k : Nat, ∃ done : List Int, v1 = vr ∧ k ≤ s.size ∧ i = .int .i64 k ∧ q = .bool false ∧ done.length ≤ k ∧ Part R done ((bl s).drop k) ∧ Hid (Grow 5 w g0 wr v1 (xs ++ done).length (bc (xs ++ done)))) (fun _ _ i _ => s.size - (intOf i).toNat)
  case atStart => exact ⟨v, 0, [], rfl, by omega, rfl, rfl, Nat.le_refl _, HR.out, Lib.hid (by simpa using HG.out)⟩
  case round =>
    obtain ⟨v1, k, done, rfl, hk, rfl, rfl, hdk, hp, HG1⟩ := hrel
    clear HR HG
    have hcw : wr.cell? ⟨b, 4, none⟩ = some (.string s) := by
      rw [World.cell?_of_block (HG1.out.1.block b hbz HN.out)]; exact HC.out
    have hbw : b < wr.heap.size := Nat.lt_of_lt_of_le hbz HG1.out.1.size
    have HP := Lib.hid hp
    have HB : (xs ++ done).length + 1 ≤ 1073741824 := by rw [List.length_append]; omega
    clear hp
    by_cases hlt : k < s.size
    · have HP2 := Lib.hid (show Part R (done ++ [((s[k]'hlt).toNat : Int)]) ((bl s).drop (k + 1)) by have := HP.out; rw [bl_drop s k hlt] at this; unfold Part at this ⊢; rw [← this]; simp)
      have hbb : 0 ≤ ((s[k]'hlt).toNat : Int) ∧ ((s[k]'hlt).toNat : Int) ≤ 255 := by have := (s[k]'hlt).toNat_lt; omega
      clear HP
      cases hb : (((s[k]'hlt).toNat : Int) == 92)
      all_goals
        go_wp2_with (first | (at_builtin; (refine wpList_append_grow _ rfl _ _ 22 rfl 5 i0 Try.underlying22 WI.out.1 WZ.out WI.out.2.1 WI.out.2.2 w g0 v1 (xs ++ done).length (bc (xs ++ done)) rfl (HG1.out.alloc _) _ 1 1 [.int .u8 ((s[k]'hlt).toNat : Int)] rfl rfl (by intro j u h; rcases j with _ | j <;> simp at h <;> (try subst h) <;> simp [Addr.add, go_sem]) (by simp [Value.oneCell']) HB ?_); intro v4 w4 hg4; have H4 := Lib.hid hg4; clear hg4))
        go_roundw
        case rel => exact ⟨_, k + 1, done ++ [((s[k]'hlt).toNat : Int)], rfl, by omega, by go_num, rfl, by simp; omega, HP2.out, Lib.hid (by have := H4.out; simpa [bc, Nat.add_assoc] using this)⟩
        case measure => simp [intOf]; omega
    · have e1 : done = R := by have := HP.out; rw [bl_end s _ (by omega)] at this; unfold Part at this; simpa using this
      subst e1
      clear HP
      go_wp2_with fail
      go_ret2
      exact ⟨_, rfl, by rw [Eg.out]; exact HG1.out⟩
set_option maxRecDepth 100000 in
set_option maxHeartbeats 4000000 in
theorem up_pe (P : Option Addr) (v : Value) (xs : List Int) (x : Value) (quotes : Bool) (w : World) (hown : w.ownsRow 0 5 1 v xs.length (bc xs)) :
    Calls Try.prog 29 #[.pointer P, v, .iface 92 x, .bool quotes] w (UPost w v xs [] false) := by
  have ta := as_WordPart_ParamExp_Lit
  have tb := as_WordPart_ParamExp_SglQuoted
  have tc := as_WordPart_ParamExp_DblQuoted
  have HG := Lib.hid (Grow.start hown)
  clear hown
  go_enter Try.func29, Try.ntmps29
  go_wp2_with fail
  go_ret2
  exact ⟨_, rfl, by rw [List.append_nil]; exact HG.out⟩
/-- '[]byte(s)': a new row with the bytes -/
theorem conv_bytes (s : ByteArray) : ∃ (c : World → Nat) (F : World → World), (∀ W, (convert 9 22 (.string s)).run Try.prog W = .ok (.slice (some ⟨W.heap.size, 0, none⟩) s.size (c W)) (F W)) ∧ (∀ W, Below W.heap.size W (F W)) ∧ ∀ W j u, (bc (bl s))[j]? = some u → (F W).cell? ((⟨W.heap.size, 0, none⟩ : Addr).add j) = some u := by
  refine ⟨_, _, fun W => run_bytes_of_string W 9 22 5 s Try.underlying9 Try.underlying22 Try.underlying5, fun W => (Below.refl W.heap.size W).drew.alloc (by simp) _, fun W j u h => ?_⟩
  have hl : (bc (bl s)).length = s.size := by rw [bc_len, bl_len]
  have hj : j < s.size := by rw [← hl]; exact (List.getElem?_eq_some_iff.1 h).1
  have hj2 : j < s.data.size := hj
  have e : (bytesRow s (grownCap W s.size 0 5))[j]? = some u := by
    rw [← h]
    unfold bytesRow
    rw [Array.getElem?_append_left (by simpa using hj2)]
    simp [bc, bl]
    rfl
  rw [Addr.add_lit, Nat.zero_add]
  show (W.drew.alloc _).cell? ⟨W.drew.heap.size, j, none⟩ = some u
  rw [World.cell?_alloc_mark]
  exact e
set_option maxRecDepth 100000 in
set_option maxHeartbeats 4000000 in
theorem up_sgl (P : Option Addr) (v : Value) (xs : List Int) (b : Nat) (s : ByteArray) (quotes : Bool) (w : World) (hs : s.size ≤ 1048576) (hxs : xs.length ≤ 2097152) (hown : w.ownsRow 0 5 1 v xs.length (bc xs)) (hc : w.cell? ⟨b, 5, none⟩ = some (.string s)) :
    Calls Try.prog 29 #[.pointer P, v, .iface 86 (.pointer (some ⟨b, 0, none⟩)), .bool quotes] w (UPost w v xs (bl s) true) := by
  have hbz : b < w.heap.size := by have := World.block_lt_of_cell? _ _ hc; simpa using this
  obtain ⟨i0, hi, hz0, hz1, hz2⟩ := info_parts infoB
  have WI := Lib.hid (And.intro hi (And.intro hz1 hz2))
  have WZ := Lib.hid hz0
  have HG := Lib.hid (Grow.start hown)
  clear hi hz0 hz1 hz2 hown
  have ta := as_WordPart_SglQuoted_Lit
  have tb := as_WordPart_SglQuoted_SglQuoted
  go_enter Try.func29, Try.ntmps29
  obtain ⟨c, F, hconv, hFb, hFc⟩ := conv_bytes s
  have HF := Lib.hid (And.intro hFb hFc)
  clear hFb hFc
  go_wp2_with (first | (at_builtin; (refine wpList_append_grow _ rfl _ _ 22 rfl 5 i0 Try.underlying22 WI.out.1 WZ.out WI.out.2.1 WI.out.2.2 w v.ownBlock v xs.length (bc xs) rfl (HG.out.below (HF.out.1 w)) _ s.size _ (bc (bl s)) rfl (by rw [bc_len, bl_len, Nat.mul_one]) (HF.out.2 w) (by intro u hu; simp [bc] at hu; obtain ⟨_, _, rfl⟩ := hu; simp [Value.oneCell']) (by omega) ?_); intro v4 w4 hg4; have H4 := Lib.hid hg4; clear hg4))
  go_ret2
  exact ⟨_, rfl, by have := H4.out; rw [bc_app, List.length_append, bl_len]; exact this⟩
end Go.Proofs.Ytdmmpgeaendjpaa
