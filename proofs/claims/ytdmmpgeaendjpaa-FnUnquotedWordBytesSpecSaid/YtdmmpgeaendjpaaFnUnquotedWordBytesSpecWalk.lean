/- The walk of FnUnquotedWordBytesSpec: the Go text returns true. Conditions: none. -/
import Derived.Test.YtdmmpgeaendjpaaUbytes
import Derived.OpenShut
import Derived.Laws.AppendOwnNone
namespace Go.Proofs.Ytdmmpgeaendjpaa.fnUnquotedWordBytesSpec
open Go.RowKit
set_option linter.unusedVariables false
set_option linter.unusedSimpArgs false

theorem mp_L (kind : Int) (s : ByteArray) (ys : List Int) (L : Nat) (Q : Bool) (w : World) (hk : 0 ≤ kind ∧ kind ≤ 255) (hs : s.size ≤ 1048576) (hy : Hid (mbytes (kind % 5) s false = ys ∧ ys.length = L ∧ mquote (kind % 5) s false = Q)) :
    Calls Try.prog 11 #[.int .u8 kind, .string s, .bool false] w fun e w' => ∃ A c, e = .returned (.tuple #[.slice A L c, .bool Q]) ∧ w'.ownsRow w.heap.size 5 1 (.slice A L c) L (bc ys) ∧ Below w.heap.size w w' := by
  obtain ⟨h1, h2, h3⟩ := hy.out
  have h := mp_any kind s false w hk hs
  rw [h1, h3] at h
  exact h.mono fun e w' ⟨A, c, he, ho, hb⟩ => ⟨A, c, by rw [he, h2], by rw [← h2]; exact ho, hb⟩
/-- an owned row reads as its list -/
theorem own_reads {w : World} {b : Nat} {v : Value} {n : Nat} {xs : List Int} (h : w.ownsRow b 5 1 v n (bc xs)) : ∃ A c, v = .slice A n c ∧ RowOf .u8 w A n (fun i => xs.getD i 0) := by
  have hl : xs.length = n := by have := h.1; rw [bc_len] at this; omega
  rcases h.2 with ⟨rfl, rfl⟩ | ⟨g, cap, cur, rfl, hb, hg, hnc, _⟩
  · exact ⟨none, 0, rfl, fun i hi => absurd hi (by omega)⟩
  · refine ⟨some ⟨g, 0, none⟩, cap, rfl, fun i hi => ⟨g, rfl, ?_⟩⟩
    rw [h.cellAt i (by omega)]
    simp [bc, List.getD, show i < xs.length by omega]
theorem own_shape {w : World} {b : Nat} {A : Option Addr} {L c : Nat} {ys : List Int} (h : w.ownsRow b 5 1 (.slice A L c) L (bc ys)) : (A = none ∧ L = 0 ∧ c = 0) ∨ ∃ g, A = some ⟨g, 0, none⟩ ∧ ∀ j u, (bc ys)[j]? = some u → w.cell? ((⟨g, 0, none⟩ : Addr).add j) = some u := by
  rcases h.2 with ⟨e, rfl⟩ | ⟨g, cap, cur, e, _⟩
  · injection e with e1 e2 e3
    exact .inl ⟨e1, rfl, e3⟩
  · injection e with e1 e2 e3
    subst e1
    exact .inr ⟨g, rfl, h.cells (g := g) rfl⟩
theorem isStrs_below {W w : World} {a : Option Addr} {len cap : Nat} {ss : List ByteArray} (h : IsStrs W a len cap ss) (hb : Below W.heap.size W w) : IsStrs w a len cap ss := by
  rcases h with h | ⟨x, h1, h2, h3, h4, hc, h5⟩
  · exact .inl h
  · exact .inr ⟨x, h1, h2, h3, h4, fun i hi => cell_below hb (hc i hi), h5⟩
set_option maxRecDepth 100000 in
set_option maxHeartbeats 8000000 in
theorem walk (a0 : Option Addr) (m cap0 : Nat) (z0 : List Int) (a1 : Option Addr) (n cap1 : Nat) (ss : List ByteArray) (w : World) (w0 : IsRow .u8 w a0 m cap0 z0) (w1 : IsStrs w a1 n cap1 ss) :
    Calls Try.prog 3 #[.slice a0 m cap0, .slice a1 n cap1] w fun e w' => e = .returned (.bool true) ∧ Below w.heap.size w w' := by
  have hml : m ≤ maxLen := by
    rcases w0 with ⟨_, h, _⟩ | ⟨x, _, hl, hm, _⟩
    · rw [h]; exact Nat.zero_le _
    · exact Nat.le_trans hl hm
  have hZ : ∀ k, k < m → 0 ≤ z0.getD k 0 ∧ z0.getD k 0 ≤ 255 := fun k hk => by
    rcases w0 with ⟨_, h, _⟩ | ⟨x, _, hl, _, hzl, _, hw⟩
    · omega
    · have hkl : k < z0.length := by omega
      have e : z0.getD k 0 = z0[k] := by simp [List.getD, hkl]
      rw [e]
      exact bounds_u8 (hw _ (List.getElem_mem hkl))
  have hIn := (strIn_of w1).1
  have W0 := Lib.hid w0
  have W1 := Lib.hid w1
  have HZ := Lib.hid hZ
  have HIN := Lib.hid hIn
  have HML := Lib.hid hml
  clear w0 w1 hZ hIn hml
  go_enter Try.func3, Try.ntmps3
  go_wp2_with fail
  refine (zbB_any _ _ _ _ _ _ _ _ HIN.out HML.out).mono ?_
  rintro e w' ⟨b, rfl, hfi, rfl⟩
  cases b
  · clear hfi
    go_wp2_with fail
    go_ret
    exact ⟨rfl, by go_grown⟩
  have HFI := Lib.hid (hfi rfl)
  clear hfi
  by_cases hm : 65536 < m
  · go_wp2_with fail
    go_ret
    exact ⟨rfl, by go_grown⟩
  by_cases hn : 65536 < n
  · go_wp2_with fail
    go_ret
    exact ⟨rfl, by go_grown⟩
  go_wp2_with fail
  refine (wb_any _ _ _ _ _ _ _ _ HIN.out (by omega) (by omega) HFI.out).mono ?_
  rintro e w' ⟨r, rfl, hr, rfl⟩
  by_cases hr1 : 1048576 < r
  · clear hr
    go_wp2_with fail
    go_ret
    exact ⟨rfl, by go_grown⟩
  have hst : stot (sth ss) n ≤ 1048576 := by rcases hr with h | ⟨_, h⟩; exact absurd h hr1; exact h
  have HST := Lib.hid hst
  clear hr hst
  go_wp2_with fail
  refine (clu_row a0 m cap0 z0 _ W0.out (by omega)).mono ?_
  rintro e w2 ⟨C, rfl, hC, hb2⟩
  have HC := Lib.hid hC
  have H2 := Lib.hid hb2
  clear hC hb2
  go_wp2_with fail
  refine (cls_row a1 n cap1 ss _ (isStrs_below W1.out H2.out) (by omega)).mono ?_
  rintro e w3 ⟨A, rfl, hA, hb3⟩
  have HA := Lib.hid hA
  have HC3 := Lib.hid (HC.out.below hb3)
  have H3 := Lib.hid (below_next H2.out hb3)
  clear hA hb3 HC H2 W0 W1
  go_wp2_with fail
  refine (wc_any _ _ _ _ _ _ _ (by omega) (by omega)).mono ?_
  rintro e w' ⟨rfl, rfl⟩
  obtain ⟨c, ec⟩ : ∃ c, min m n = c := ⟨_, rfl⟩
  rw [ec]
  have hcm : c ≤ m := by omega
  have hcn : c ≤ n := by omega
  have HMN := Lib.hid ec
  clear ec
  obtain ⟨ks, eks⟩ : ∃ ks : Nat → Int, (fun i => z0.getD i 0) = ks := ⟨_, rfl⟩
  obtain ⟨f, ef⟩ : ∃ f : Nat → ByteArray, sth ss = f := ⟨_, rfl⟩
  have HKS := Lib.hid (show ∀ i, i < m → 0 ≤ ks i ∧ ks i ≤ 255 by rw [← eks]; exact HZ.out)
  rw [ef] at HA HFI HST
  rw [eks] at HC3
  clear eks ef HZ HIN
  obtain ⟨i0, hi, hz0, hz1, hz2⟩ := info_parts infoB
  have WI := Lib.hid (And.intro hi (And.intro hz1 hz2))
  have WZ := Lib.hid hz0
  clear hi hz0 hz1 hz2
  go_wp2_with (first | (at_make; (refine wpList_make_own _ rfl _ _ 22 rfl w3.heap.size 5 i0 (.int .u8 0) 1 Try.underlying22 WI.out.1 WZ.out WI.out.2.1 _ _ _ 16 rfl rfl rfl (by rw [WI.out.2.2]; omega) (by unfold maxLen; omega) (Nat.le_refl _) ?_); intro w4 hown hgrow; have HG := Lib.hid (show Grow 5 w3 none w4 _ 0 [] from ⟨hgrow, .inr hown⟩); clear hown hgrow))
  go_loopw [6, 7, 8] (fun vr q i wr => ∃ v1 : Value, ∃ k : Nat, v1 = vr ∧ k ≤ c ∧ i = .int .i64 k ∧ q = .bool (lastq f ks k) ∧ Hid (Grow 5 w3 none wr v1 (allb f ks k).length (bc (allb f ks k)))) (fun _ _ i _ => c - (intOf i).toNat)
  case atStart => exact ⟨_, 0, rfl, Nat.zero_le _, rfl, rfl, HG⟩
  case round =>
    obtain ⟨v1, k, rfl, hk, rfl, rfl, HG1⟩ := hrel
    clear HG
    by_cases hlt : k < c
    · obtain ⟨gs, es, cs⟩ := HA.out.below HG1.out.bel k (by omega)
      obtain ⟨gk, ek, ck⟩ := HC3.out.below HG1.out.bel k (by omega)
      have hkk := HKS.out k (by omega)
      have hfk := HFI.out k (by omega)
      have hle := stot_le f (show k < n by omega)
      have hst := HST.out
      have hal := allb_len f ks k
      have CP := Lib.hid cs
      have CQ := Lib.hid ck
      obtain ⟨ys, eys⟩ : ∃ ys, mbytes (ks k % 5) (f k) false = ys := ⟨_, rfl⟩
      obtain ⟨Q, eQ⟩ : ∃ Q, mquote (ks k % 5) (f k) false = Q := ⟨_, rfl⟩
      obtain ⟨L, eL⟩ : ∃ L, ys.length = L := ⟨_, rfl⟩
      have hLl : L ≤ (f k).size := by rw [← eL, ← eys]; exact mbytes_len _ _ _
      have HY := Lib.hid (And.intro eys (And.intro eL eQ))
      have b1 : (0 : Int) ≤ (k : Int) := by omega
      have b2 : (k : Int) < (n : Int) := by omega
      have b3 : (k : Int) < (m : Int) := by omega
      have b4 : k < n := by omega
      have b5 : k < m := by omega
      have e1 := allb_succ f ks k
      have e2 := lastq_succ f ks k
      rw [eys] at e1
      rw [eQ] at e2
      have HE := Lib.hid (And.intro e1 e2)
      clear cs ck eys eQ eL e1 e2
      subst es ek
      go_wp2_with fail
      go_region_held3 (fun U9 => U9.cell? ⟨gs, k, none⟩ = some (.string (f k)) ∧ U9.cell? ⟨gk, k, none⟩ = some (.int .u8 (ks k)))
        ((refine keepB CP.out CQ.out ?_; go_grown; done))
        (first | (go_at_call 11; refine (mp_L (ks k) (f k) ys L Q _ hkk hfk HY).mono ?_; rintro e w7 ⟨A7, c7, rfl, hO, hb7⟩; have HO7 := Lib.hid hO; have hB7 : Below wr.heap.size wr w7 := below_next (by go_grown) hb7; have H7 := Lib.hid hB7; clear hb7 hO))
      have hsh := own_shape HO7.out
      rcases hsh with ⟨rfl, rfl, rfl⟩ | ⟨g, rfl, hcl⟩
      · have ey : ys = [] := List.eq_nil_of_length_eq_zero HY.out.2.1
        have HE2 := Lib.hid (show allb f ks (k + 1) = allb f ks k by rw [HE.out.1, ey, List.append_nil])
        have HG2 := Lib.hid (HG1.out.below H7.out)
        clear ey
        go_wp2_with (first | (at_builtin; (refine wpList_append_own_none rfl _ _ 22 rfl 0 5 i0 1 Try.underlying22 WI.out.1 v1 (allb f ks k).length (bc (allb f ks k)) rfl HG2.out.owns rfl ?_)))
        go_roundw
        case rel => exact ⟨_, k + 1, rfl, by omega, by go_num, by rw [HE.out.2], by rw [HE2.out]; exact HG2⟩
        case measure => simp [intOf]; omega
      · have HCL := Lib.hid hcl
        have HG2 := Lib.hid (HG1.out.below H7.out)
        clear hcl
        go_wp2_with (first | (at_builtin; (refine wpList_append_grow _ rfl _ _ 22 rfl 5 i0 Try.underlying22 WI.out.1 WZ.out WI.out.2.1 WI.out.2.2 w3 none v1 (allb f ks k).length (bc (allb f ks k)) rfl HG2.out _ L _ (bc ys) rfl (by rw [bc_len, HY.out.2.1, Nat.mul_one]) HCL.out (by intro u hu; simp [bc] at hu; obtain ⟨_, _, rfl⟩ := hu; simp [Value.oneCell']) (by omega) ?_); intro v4 w8 hg4; have H4 := Lib.hid hg4; clear hg4))
        go_roundw
        case rel => exact ⟨_, k + 1, rfl, by omega, by go_num, by rw [HE.out.2], Lib.hid (by have := H4.out; rw [HE.out.1, bc_app, List.length_append, HY.out.2.1]; exact this)⟩
        case measure => simp [intOf]; omega
    · obtain rfl : k = c := by omega
      clear hlt
      have HA1 := Lib.hid (HA.out.below HG1.out.bel)
      have HC1 := Lib.hid (HC3.out.below HG1.out.bel)
      go_wp2_with fail
      refine (np_any _).mono ?_
      rintro e w5 ⟨rfl, hp, hb5, hsz⟩
      have H5 := Lib.hid hb5
      clear hp hb5 hsz
      go_wp2_with fail
      refine (bw_any A C n m k f ks _ (HA1.out.below H5.out) (HC1.out.below H5.out) HKS.out (by omega) (by omega) HMN.out).mono ?_
      rintro e w6 ⟨b, rfl, hU, hb6⟩
      have HU := Lib.hid hU
      have H6 := Lib.hid hb6
      clear hU hb6
      have hsk : stot f k ≤ 1048576 := by
        have h1 := stot_mono f k (n - k)
        rw [show k + (n - k) = n by omega] at h1
        have := HST.out
        omega
      go_wp2_with fail
      refine (zub_any _ b k f ks _ HU.out (by omega) hsk).mono ?_
      rintro e w7 ⟨v7, rfl, hG7⟩
      have HG7 := Lib.hid hG7
      have hal := allb_len f ks k
      obtain ⟨N, eN⟩ : ∃ N, (allb f ks k).length = N := ⟨_, rfl⟩
      have hb17 := below_next (below_next H5.out H6.out) HG7.out.bel
      have hNl : N ≤ 1048576 := by omega
      have HO1 := Lib.hid (HG1.out.below hb17).owns
      have hfin := below_next (below_next H3.out HG1.out.bel) hb17
      have HFIN := Lib.hid hfin
      rw [eN] at HO1
      have HO7 := Lib.hid HG7.out.owns
      rw [eN] at HO7
      clear hG7 hb17 hfin eN hal
      obtain ⟨A7, c7, rfl, hR7⟩ := own_reads HO7.out
      obtain ⟨A1, c1, rfl, hR1⟩ := own_reads HO1.out
      have HR := Lib.hid (And.intro hR7 hR1)
      clear hR7 hR1
      obtain ⟨q, eq⟩ : ∃ q, lastq f ks k = q := ⟨_, rfl⟩
      simp only [eq]
      have hqq : (q == q) = true := by simp
      clear eq
      go_wp2_with (go_at_call 15; refine (sb_any A7 A1 N c7 c1 _ _ hNl HR.out.1 HR.out.2).mono ?_; rintro e w8 ⟨rfl, hb8⟩; have H8 := Lib.hid (below_next HFIN.out hb8); clear hb8)
      go_ret
      exact ⟨rfl, H8.out⟩
end Go.Proofs.Ytdmmpgeaendjpaa.fnUnquotedWordBytesSpec
