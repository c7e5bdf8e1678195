/- The contracts of markIndex and of the three ways to ask. Conditions: the cells. -/
import Derived.Test.YtgeaokgcmhkoaaaMark
namespace Go.Proofs.Ytgeaokgcmhkoaaa
open Go.RowKit
set_option linter.unusedVariables false
set_option linter.unusedSimpArgs false

/-- the simplifier at sb: its flag, its map at c with the keys ks -/
def SM (W : World) (sb c : Nat) (m : Bool) (ks : List Value) : Prop := W.cell? ⟨sb, 0, none⟩ = some (.bool m) ∧ W.cell? ⟨sb, 1, none⟩ = some (.map (some c)) ∧ c < sb ∧ MapOf W c ks
theorem SM.step {W W' : World} {sb c : Nat} {m : Bool} {ks ks' : List Value} (h : SM W sb c m ks) (hg : W.grownBy W' (some c)) (hm : MapOf W' c ks') : SM W' sb c m ks' := by
  obtain ⟨h1, h2, h3, _⟩ := h
  exact ⟨gcell hg h1 (by omega), gcell hg h2 (by omega), h3, hm⟩
theorem SM.below {W W' : World} {sb c : Nat} {m : Bool} {ks : List Value} (h : SM W sb c m ks) (hb : Below W.heap.size W W') : SM W' sb c m ks := by
  obtain ⟨h1, h2, h3, h4⟩ := h
  refine ⟨cell_below hb h1, cell_below hb h2, h3, h4.keep ?_⟩
  obtain ⟨es, clock, h5, _⟩ := h4
  exact hb.5 c (Array.getElem?_eq_some_iff.1 h5).1
def MPost (sb c : Nat) (m : Bool) (ks : List Value) (W : World) (e : Ending) (w' : World) : Prop := e = .returned (.tuple #[]) ∧ SM w' sb c m ks ∧ W.grownBy w' (some c)
theorem trans_c {a b d : World} {c : Nat} (h : a.grownBy b (some c)) (k : b.grownBy d (some c)) : a.grownBy d (some c) := gtrans h k
set_option maxRecDepth 1000000 in
set_option maxHeartbeats 8000000 in
theorem mi_any (sb c : Nat) (m : Bool) : ∀ (d lo hi : Nat) (x : Value) (vs : List Value) (ws : List Bool) (ks : List Value) (W : World), Rep W d true lo hi x vs ws → SM W sb c m ks → (∀ y ∈ ks, KeyIn W 0 lo y) →
    Calls Try.prog 19 #[.pointer (some ⟨sb, 0, none⟩), x] W (MPost sb c m (ks ++ keptL vs ws) W) := by
  intro d
  induction d with
  | zero => intro lo hi x vs ws ks W h; exact h.elim
  | succ d ih =>
    intro lo hi x vs ws ks W h hS hK
    have IH := Lib.hid ih
    clear ih
    have hsb : sb < W.heap.size := by have := World.block_lt_of_cell? _ _ hS.1; simpa using this
    have k1 := hS.2.1
    rcases h with ⟨b, rfl, hl, hb, ht, rfl, rfl⟩ | ⟨b, mm, x1, x2, v1, v2, w1, w2, rfl, hl, hb, ht, c1, c2, r1, r2, rfl, rfl⟩ | ⟨b, x1, v1, w1, rfl, hl, hb, ht, c1, r1, rfl, rfl⟩ | ⟨b, x1, v1, w1, rfl, hl, hb, ht, c1, r1, rfl, rfl⟩ | ⟨b, x1, v1, w1, rfl, hl, hb, ht, r1, rfl, rfl⟩
    · have a1 := as_ArithmExpr_Word_BinaryArithm
      have a2 := as_ArithmExpr_Word_ParenArithm
      have a3 := as_ArithmExpr_Word_UnaryArithm
      have HS := Lib.hid hS
      clear hS hK
      go_enter Try.func19, Try.ntmps19
      go_wp2_with fail
      exact bodyPost_end (v := .tuple #[]) (by simp [results, Try.results19]) rfl ⟨rfl, by simpa [keptL] using HS.out, World.grownBy.refl _ _⟩
    · have a1 := as_ArithmExpr_BinaryArithm_BinaryArithm
      have hx : KeyV Try.prog W (.iface 60 (.pointer (some ⟨b, 0, none⟩))) 60 b := ⟨rfl, ptr_B, _, ht⟩
      have hne : ∀ y ∈ ks, (Op.equal 34 (.iface 60 (.pointer (some ⟨b, 0, none⟩))) y).run Try.prog W = .ok false W := fun y hy => keys_differ ⟨_, b, hx, Nat.le_refl b, Nat.lt_succ_self b⟩ (hK y hy) hl
      have HX := Lib.hid hx
      have HN := Lib.hid hne
      have HS := Lib.hid hS
      have HK := Lib.hid hK
      have H12 := Lib.hid (And.intro (And.intro c1 c2) (And.intro r1 r2))
      have HT := Lib.hid ht
      have zb : b < W.heap.size := ht.lt
      clear hx hne hS hK c1 c2 r1 r2 ht
      go_enter Try.func19, Try.ntmps19
      go_wp2_with (first | (at_mapUpdate; (refine wpList_put _ rfl _ _ _ 83 rfl Try.underlying83 Try.underlying34 HS.out.2.2.2 HX.out rfl rfl rfl HN.out ?_); intro u1 hm1 hg1 hz1; have G1 := Lib.hid (And.intro hm1 hg1); have c1 := cell_of_nk (nk_map HS.out.2.2.2 hg1) (Nat.zero_le _) HT.out (.inr (.inl rfl)) H12.out.1.1; have zb1 : b < u1.heap.size := (by omega); clear hm1 hg1))
      have S1 := Lib.hid (HS.out.step G1.out.2 G1.out.1)
      have N1 := Lib.hid (nk_map HS.out.2.2.2 G1.out.2)
      have R1 := Lib.hid (Rep.keep N1.out d true _ _ _ _ v1 w1 (Nat.zero_le _) (Nat.le_refl _) H12.out.2.1)
      have K1 : ∀ y ∈ ks ++ [.iface 60 (.pointer (some ⟨b, 0, none⟩))], KeyIn u1 0 (b + 1) y := fun y hy => by
        rcases List.mem_append.1 hy with hy | hy
        · exact (keep_key HS.out.2.2.2 G1.out.2 (HK.out y hy)).wide (Nat.le_refl _) (by omega)
        · simp only [List.mem_singleton] at hy
          subst hy
          exact keep_key HS.out.2.2.2 G1.out.2 ⟨_, b, HX.out, Nat.zero_le _, Nat.lt_succ_self b⟩
      have HK1 := Lib.hid K1
      clear K1 c1 k1
      refine (IH.out (b + 1) mm x1 v1 w1 _ u1 R1.out S1.out HK1.out).mono ?_
      rintro e u2 ⟨rfl, hS2, hg2⟩
      have N2 := Lib.hid (N1.out.trans (nk_map S1.out.2.2.2 hg2))
      have c2 := cell_of_nk N2.out (Nat.zero_le _) HT.out (.inr (.inl rfl)) H12.out.1.2
      have hz2 := hg2.size
      have zb2 : b < u2.heap.size := by omega
      have S2 := Lib.hid hS2
      have G2 := Lib.hid (trans_c G1.out.2 hg2)
      have K2 : ∀ y ∈ ks ++ [.iface 60 (.pointer (some ⟨b, 0, none⟩))] ++ keptL v1 w1, KeyIn u2 0 mm y := fun y hy => by
        have hlh := Rep.lohi R1.out
        rcases List.mem_append.1 hy with hy | hy
        · exact (keep_key S1.out.2.2.2 hg2 (HK1.out y hy)).wide (Nat.le_refl _) (by omega)
        · exact (keep_key S1.out.2.2.2 hg2 (Rep.keys R1.out y (keptL_sub _ _ _ hy))).wide (by omega) (Nat.le_refl _)
      have HK2 := Lib.hid K2
      clear hS2 hg2 K2
      go_wp2_with fail
      refine (IH.out mm hi x2 v2 w2 _ u2 (Rep.keep N2.out d true _ _ _ _ v2 w2 (Nat.zero_le _) (Nat.le_refl _) H12.out.2.2) S2.out HK2.out).mono ?_
      rintro e u3 ⟨rfl, hS3, hg3⟩
      have S3 := Lib.hid (And.intro hS3 hg3)
      clear hS3 hg3
      go_wp2_with fail
      refine bodyPost_end (v := .tuple #[]) (by simp [results, Try.results19]) rfl ⟨rfl, ?_, trans_c G2.out S3.out.2⟩
      have h := S3.out.1
      rw [show keptL (Value.iface 60 (.pointer (some ⟨b, 0, none⟩)) :: (v1 ++ v2)) (true :: (w1 ++ w2)) = Value.iface 60 (.pointer (some ⟨b, 0, none⟩)) :: (keptL v1 w1 ++ keptL v2 w2) by simp only [keptL]; rw [keptL_app _ _ _ _ (Rep.len H12.out.2.1)]]
      simpa [List.append_assoc] using h
    · have a1 := as_ArithmExpr_ParenArithm_BinaryArithm
      have a2 := as_ArithmExpr_ParenArithm_ParenArithm
      have hx : KeyV Try.prog W (.iface 48 (.pointer (some ⟨b, 0, none⟩))) 48 b := ⟨rfl, ptr_P, _, ht⟩
      have hne : ∀ y ∈ ks, (Op.equal 34 (.iface 48 (.pointer (some ⟨b, 0, none⟩))) y).run Try.prog W = .ok false W := fun y hy => keys_differ ⟨_, b, hx, Nat.le_refl b, Nat.lt_succ_self b⟩ (hK y hy) hl
      have HX := Lib.hid hx
      have HN := Lib.hid hne
      have HS := Lib.hid hS
      have HK := Lib.hid hK
      have H12 := Lib.hid (And.intro c1 r1)
      have HT := Lib.hid ht
      have zb : b < W.heap.size := ht.lt
      clear hx hne hS hK c1 r1 ht
      go_enter Try.func19, Try.ntmps19
      go_wp2_with (first | (at_mapUpdate; (refine wpList_put _ rfl _ _ _ 83 rfl Try.underlying83 Try.underlying34 HS.out.2.2.2 HX.out rfl rfl rfl HN.out ?_); intro u1 hm1 hg1 hz1; have G1 := Lib.hid (And.intro hm1 hg1); have c1 := cell_of_nk (nk_map HS.out.2.2.2 hg1) (Nat.zero_le _) HT.out (.inr (.inr (.inl rfl))) H12.out.1; have zb1 : b < u1.heap.size := (by omega); clear hm1 hg1))
      have S1 := Lib.hid (HS.out.step G1.out.2 G1.out.1)
      have N1 := Lib.hid (nk_map HS.out.2.2.2 G1.out.2)
      have R1 := Lib.hid (Rep.keep N1.out d true _ _ _ _ v1 w1 (Nat.zero_le _) (Nat.le_refl _) H12.out.2)
      have K1 : ∀ y ∈ ks ++ [.iface 48 (.pointer (some ⟨b, 0, none⟩))], KeyIn u1 0 (b + 1) y := fun y hy => by
        rcases List.mem_append.1 hy with hy | hy
        · exact (keep_key HS.out.2.2.2 G1.out.2 (HK.out y hy)).wide (Nat.le_refl _) (by omega)
        · simp only [List.mem_singleton] at hy
          subst hy
          exact keep_key HS.out.2.2.2 G1.out.2 ⟨_, b, HX.out, Nat.zero_le _, Nat.lt_succ_self b⟩
      have HK1 := Lib.hid K1
      clear K1 c1 k1
      refine (IH.out (b + 1) hi x1 v1 w1 _ u1 R1.out S1.out HK1.out).mono ?_
      rintro e u2 ⟨rfl, hS2, hg2⟩
      have S2 := Lib.hid (And.intro hS2 (trans_c G1.out.2 hg2))
      clear hS2 hg2
      go_wp2_with fail
      refine bodyPost_end (v := .tuple #[]) (by simp [results, Try.results19]) rfl ⟨rfl, ?_, S2.out.2⟩
      have h := S2.out.1
      simpa [keptL, List.append_assoc] using h
    · have a1 := as_ArithmExpr_UnaryArithm_BinaryArithm
      have a2 := as_ArithmExpr_UnaryArithm_ParenArithm
      have a3 := as_ArithmExpr_UnaryArithm_UnaryArithm
      have HS := Lib.hid hS
      have HK := Lib.hid hK
      have HR := Lib.hid r1
      have zb : b < W.heap.size := ht.lt
      clear hS hK r1 ht k1
      go_enter Try.func19, Try.ntmps19
      go_wp2_with fail
      refine (IH.out (b + 1) hi x1 v1 w1 ks W HR.out HS.out (fun y hy => (HK.out y hy).wide (Nat.le_refl _) (by omega))).mono ?_
      rintro e u2 ⟨rfl, hS2, hg2⟩
      have S2 := Lib.hid (And.intro hS2 hg2)
      clear hS2 hg2
      go_wp2_with fail
      exact bodyPost_end (v := .tuple #[]) (by simp [results, Try.results19]) rfl ⟨rfl, by simpa [keptL] using S2.out.1, S2.out.2⟩
    · have a1 := as_ArithmExpr_FlagsArithm_BinaryArithm
      have a2 := as_ArithmExpr_FlagsArithm_ParenArithm
      have a3 := as_ArithmExpr_FlagsArithm_UnaryArithm
      have HS := Lib.hid hS
      have hk0 : keptL v1 w1 = [] := keptL_none _ _ (Rep.none r1)
      have HK0 := Lib.hid hk0
      clear hS hK r1 hk0
      go_enter Try.func19, Try.ntmps19
      go_wp2_with fail
      exact bodyPost_end (v := .tuple #[]) (by simp [results, Try.results19]) rfl ⟨rfl, by simpa [keptL, HK0.out] using HS.out, World.grownBy.refl _ _⟩
set_option maxHeartbeats 1000000 in
theorem zmi_any (sb c : Nat) (m : Bool) (ks : List Value) (x : Value) (W : World) (h : Calls Try.prog 19 #[.pointer (some ⟨sb, 0, none⟩), x] W (MPost sb c m ks W)) : Calls Try.prog 14 #[.pointer (some ⟨sb, 0, none⟩), x] W (MPost sb c m ks W) := by
  have H := Lib.hid h
  clear h
  go_enter Try.func14, Try.ntmps14
  go_wp2_with (go_at_call 19; refine H.out.mono ?_; rintro e w2 ⟨rfl, h1, h2⟩; have H2 := Lib.hid (And.intro h1 h2); clear h1 h2)
  exact bodyPost_end (v := .tuple #[]) (by simp [results, Try.results14]) rfl ⟨rfl, H2.out⟩
theorem zero_bl (w : World) : (zeroValue 4).run Try.prog w = .ok (.bool false) w := by kernel_rfl
set_option maxHeartbeats 1000000 in
theorem zk_any (sb c : Nat) (m : Bool) (ks : List Value) (x : Value) (T : TypeId) (b : Nat) (g : Value → Bool) (W : World) (hS : SM W sb c m ks) (hx : KeyV Try.prog W x T b) (hg : ∀ y ∈ ks, (Op.equal 34 x y).run Try.prog W = .ok (g y) W) :
    Calls Try.prog 15 #[.pointer (some ⟨sb, 0, none⟩), x] W fun e w' => e = .returned (.bool (ks.any g)) ∧ w' = W := by
  have k1 := hS.2.1
  have hsb : sb < W.heap.size := by have := World.block_lt_of_cell? _ _ hS.1; simpa using this
  have HS := Lib.hid hS
  have HX := Lib.hid hx
  have HG := Lib.hid hg
  obtain ⟨L, eL⟩ : ∃ L, ks.any g = L := ⟨_, rfl⟩
  rw [eL]
  have EL := Lib.hid eL
  clear hS hx hg eL
  go_enter Try.func15, Try.ntmps15
  go_wp2_with (first | (at_lookup; (refine wpList_kept _ rfl _ _ 83 rfl Try.underlying83 Try.underlying34 HS.out.2.2.2 HX.out (zero_bl _) rfl rfl HG.out ?_); rw [EL.out]))
  go_ret
  exact ⟨rfl, rfl⟩
theorem wpList_len_map {P : Program} (w : World) {ops : Array Oper} {rest : List Oper} {o : Oper} {a : Act} {Q : Exit → Act → World → Prop} (hg : o.guard = none) (m : Operand) (t : TypeId) (hop : o.op = Op.call { callee := Callee.builtin Builtin.len, args := #[m], argTypes := #[t] })
    {k e : TypeId} (ht : P.underlying t = some (.map k e)) {c : Nat} {ks : List Value} (hm : a.eval m = .map (some c)) (hmap : MapOf w c ks) (hK : wpList P ops Q rest (a.put o.dst (.int .i64 ks.length)) w) : wpList P ops Q (o :: rest) a w := by
  refine wpList_plain hg fun K' hK' => ?_
  unfold Oper.wp
  simp [execOp, hop, resolve, invoke, builtin, hm, run_len_map w ht hmap o.type, Result.andThen]
  exact hK' _ _ hK
set_option maxHeartbeats 1000000 in
theorem zkc_any (sb c : Nat) (m : Bool) (ks : List Value) (W : World) (hS : SM W sb c m ks) : Calls Try.prog 16 #[.pointer (some ⟨sb, 0, none⟩)] W fun e w' => e = .returned (.int .i64 ks.length) ∧ W = w' := by
  have k1 := hS.2.1
  have hsb : sb < W.heap.size := by have := World.block_lt_of_cell? _ _ hS.1; simpa using this
  have HS := Lib.hid hS
  clear hS
  go_enter Try.func16, Try.ntmps16
  go_wp2_with (first | (at_len; (refine wpList_len_map _ rfl _ 83 rfl Try.underlying83 rfl HS.out.2.2.2 ?_)))
  go_ret
  exact ⟨rfl, rfl⟩
end Go.Proofs.Ytgeaokgcmhkoaaa
