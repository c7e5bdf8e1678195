/- Maps whose keys are interface values that hold pointers to nodes: what a look-up, a store and len answer. Conditions: the keys' blocks lie in memory, unmarked. -/
import Derived.Test.YtgeaokgcmhkoaaaMapIf
namespace Go.Proofs.Ytgeaokgcmhkoaaa
open Go.RowKit
set_option linter.unusedVariables false
set_option linter.unusedSimpArgs false

/-- block b is a node of type T -/
def TypeAt (W : World) (b : Nat) (T : TypeId) : Prop := ∃ C, W.heap[b]? = some (.cells C T (0, 0))
theorem TypeAt.lt {W : World} {b : Nat} {T : TypeId} (h : TypeAt W b T) : b < W.heap.size := by obtain ⟨C, h⟩ := h; exact (Array.getElem?_eq_some_iff.1 h).1
/-- a key: a pointer to the head of a block -/
def KeyV (P : Program) (W : World) (x : Value) (T : TypeId) (b : Nat) : Prop := x = .iface T (.pointer (some ⟨b, 0, none⟩)) ∧ PtrT P T ∧ ∃ S, TypeAt W b S
section
variable {P : Program} (w : World)
theorem run_equal_keys {k T U : TypeId} {ms : Array (String × TypeId)} {a b : Nat} {x y : Value} (hk : P.underlying k = some (.interface ms)) (hx : KeyV P w x T a) (hy : KeyV P w y U b) (hTU : a = b → T = U) :
    (Op.equal k x y).run P w = .ok (decide (a = b)) w := by
  obtain ⟨rfl, ⟨e, i, j, h1, h2, h3, h4, h5⟩, S1, C1, hb1⟩ := hx
  obtain ⟨rfl, _, S2, C2, hb2⟩ := hy
  by_cases hT : T = U
  · subst hT
    have hp : ∀ d : Nat, (Op.equalIn (d + 1) T (.pointer (some ⟨a, 0, none⟩)) (.pointer (some ⟨b, 0, none⟩))).run P w = .ok (decide (a = b)) w := fun d => by
      by_cases hab : a = b
      · subst hab
        simp [Op.equalIn, run_underlying h1, sizeOf, typeInfo, h4, run_sameAddr_same, h5]
      · simp [Op.equalIn, run_underlying h1, sizeOf, typeInfo, h4, h5, run_sameAddr_other w (a := ⟨a, 0, none⟩) (b := ⟨b, 0, none⟩) (fun e => hab (by injection e)) hb1 hb2, hab]
    have h : ∀ d : Nat, (Op.equalIn (d + 1 + 1) k (.iface T (.pointer (some ⟨a, 0, none⟩))) (.iface T (.pointer (some ⟨b, 0, none⟩)))).run P w = .ok (decide (a = b)) w := fun d => by
      rw [Op.equalIn]
      simp only [Sem.run_bind, run_underlying hk, Result.andThen, ne_eq, not_true_eq_false, if_false, typeInfo, h2, h3, Bool.not_true, Bool.false_eq_true]
      simpa [h2, h3] using hp d
    exact h 9998
  · have hab : ¬ a = b := fun e => hT (hTU e)
    have h : ∀ d : Nat, (Op.equalIn (d + 1 + 1) k (.iface T (.pointer (some ⟨a, 0, none⟩))) (.iface U (.pointer (some ⟨b, 0, none⟩)))).run P w = .ok (decide (a = b)) w := fun d => by
      rw [Op.equalIn]
      simp [run_underlying hk, hT, hab, Result.andThen]
    exact h 9998
theorem run_asking {k : TypeId} {key : Value} {f : MapEntry → Bool} : ∀ (l : List MapEntry) (i : Nat), (∀ e ∈ l, (Op.equal k key e.key).run P w = .ok (f e) w) → (∀ e ∈ l, e.val = .bool true) →
    ∃ r, (Instr.findAsking k key l i).run P w = .ok r w ∧ (l.any f = true → ∃ j, r = some (j, .bool true)) ∧ (l.any f = false → r = none)
  | [], i, _, _ => ⟨none, by simp [Instr.findAsking], by simp, fun _ => rfl⟩
  | e :: l, i, h, hv => by
    have h1 := h e (.head _)
    have hv1 := hv e (.head _)
    cases hf : f e
    · rw [hf] at h1
      obtain ⟨r, hr, h2, h3⟩ := run_asking l (i + 1) (fun x hx => h x (.tail _ hx)) (fun x hx => hv x (.tail _ hx))
      exact ⟨r, by simp [Instr.findAsking, h1, hr, Result.andThen], by simpa [hf] using h2, by simpa [hf] using h3⟩
    · rw [hf] at h1
      exact ⟨some (i, .bool true), by simp [Instr.findAsking, h1, hv1, Result.andThen], fun _ => ⟨i, rfl⟩, by simp [hf]⟩
theorem run_find {k : TypeId} {ms : Array (String × TypeId)} {key : Value} {f : MapEntry → Bool} (hk : P.underlying k = some (.interface ms)) (l : List MapEntry) (h : ∀ e ∈ l, (Op.equal k key e.key).run P w = .ok (f e) w) (hv : ∀ e ∈ l, e.val = .bool true) :
    ∃ r, (Instr.findKey k key l).run P w = .ok r w ∧ (l.any f = true → ∃ j, r = some (j, .bool true)) ∧ (l.any f = false → r = none) := by
  cases l with
  | nil => exact ⟨none, by simp [Instr.findKey, run_underlying hk, Instr.findNow, Result.andThen], by simp, fun _ => rfl⟩
  | cons e l =>
    obtain ⟨r, hr, h2⟩ := run_asking (P := P) w (e :: l) 0 h hv
    refine ⟨r, ?_, h2⟩
    simp only [Instr.findKey, Sem.run_bind, run_underlying hk, Result.andThen, Instr.findNow, Instr.sameNow]
    exact hr
/-- block c is a map whose keys are ks, each with the element true -/
def MapOf (W : World) (c : Nat) (ks : List Value) : Prop := ∃ es clock, W.heap[c]? = some (.map es clock) ∧ es.toList.map (·.key) = ks ∧ ∀ e ∈ es.toList, e.val = .bool true
theorem MapOf.keep {W W' : World} {c : Nat} {ks : List Value} (h : MapOf W c ks) (hb : W'.heap[c]? = W.heap[c]?) : MapOf W' c ks := by
  obtain ⟨es, clock, h1, h2⟩ := h
  exact ⟨es, clock, by rw [hb]; exact h1, h2⟩
theorem run_kept {t k e : TypeId} {ms : Array (String × TypeId)} {c : Nat} {ks : List Value} {x : Value} {T : TypeId} {b : Nat} {g : Value → Bool} (ht : P.underlying t = some (.map k e)) (hk : P.underlying k = some (.interface ms)) (hm : MapOf w c ks) (hx : KeyV P w x T b)
    (hz : (zeroValue e).run P w = .ok (.bool false) w) (hg : ∀ y ∈ ks, (Op.equal k x y).run P w = .ok (g y) w) :
    (Instr.lookup t (.map (some c)) x false).run P w = .ok (.bool (ks.any g)) w := by
  obtain ⟨es, clock, hb, hks, hv⟩ := hm
  obtain ⟨r, hr, h1, h2⟩ := run_find (P := P) w (f := fun e => g e.key) hk es.toList (fun e he => hg _ (by rw [← hks]; exact List.mem_map_of_mem he)) hv
  have he : es.toList.any (fun e => g e.key) = ks.any g := by rw [← hks, List.any_map]; rfl
  rw [he] at h1 h2
  have hc := run_ck (P := P) w (p := some ⟨b, 0, none⟩) es.isEmpty hk hx.2.1 9998
  rw [← hx.1] at hc
  cases ha : ks.any g
  · have hr2 := h2 ha
    subst hr2
    simp [Instr.lookup, run_underlying ht, MapKept.run_getObj_map hb, hc, hr, hz, Result.andThen]
  · obtain ⟨j, hj⟩ := h1 ha
    subst hj
    simp [Instr.lookup, run_underlying ht, MapKept.run_getObj_map hb, hc, hr, Result.andThen]
theorem run_put {t k e : TypeId} {ms : Array (String × TypeId)} {c : Nat} {ks : List Value} {x : Value} {T : TypeId} {b : Nat} (ht : P.underlying t = some (.map k e)) (hk : P.underlying k = some (.interface ms)) (hm : MapOf w c ks) (hx : KeyV P w x T b)
    (hg : ∀ y ∈ ks, (Op.equal k x y).run P w = .ok false w) :
    ∃ w', (Instr.mapUpdate t (.map (some c)) x (.bool true)).run P w = .ok () w' ∧ MapOf w' c (ks ++ [x]) ∧ w.grownBy w' (some c) ∧ w'.heap.size = w.heap.size := by
  obtain ⟨es, clock, hb, hks, hv⟩ := hm
  obtain ⟨r, hr, h1, h2⟩ := run_find (P := P) w (f := fun _ => false) hk es.toList (fun e he => hg _ (by rw [← hks]; exact List.mem_map_of_mem he)) hv
  have hr2 := h2 (by simp)
  subst hr2
  have hc := run_ck (P := P) w (p := some ⟨b, 0, none⟩) false hk hx.2.1 9998
  rw [← hx.1] at hc
  have hlt : c < w.heap.size := (Array.getElem?_eq_some_iff.1 hb).1
  refine ⟨{ w with heap := w.heap.setIfInBounds c (.map (es.push { key := x, val := .bool true, born := clock }) (clock + 1)) }, ?_, ⟨_, _, by simp [hlt]; exact ⟨rfl, rfl⟩, by simp [hks], ?_⟩, ⟨rfl, rfl, rfl, by simp, fun i _ hi => ?_⟩, by simp⟩
  · simp [Instr.mapUpdate, run_underlying ht, MapKept.run_getObj_map hb, hc, hr, MapKept.run_setObj_map _ hb, Result.andThen]
  · intro e he
    simp at he
    rcases he with he | he
    · exact hv e (by simpa using he)
    · rw [he]
  · have hne : c ≠ i := fun e => hi (by rw [e])
    simp [hne]
end
theorem wpList_put {P : Program} (w : World) {ops : Array Oper} {rest : List Oper} {o : Oper} {a : Act} {Q : Exit → Act → World → Prop}
    (hg : o.guard = none) (m x v : Operand) (t : TypeId) (hop : o.op = Op.mapUpdate t m x v) {k e T : TypeId} {ms : Array (String × TypeId)} {c b : Nat} {ks : List Value} {xv : Value}
    (ht : P.underlying t = some (.map k e)) (hk : P.underlying k = some (.interface ms)) (hmap : MapOf w c ks) (hkey : KeyV P w xv T b) (hm : a.eval m = .map (some c)) (hx : a.eval x = xv) (hv : a.eval v = .bool true)
    (hne : ∀ y ∈ ks, (Op.equal k xv y).run P w = .ok false w)
    (hK : ∀ w', MapOf w' c (ks ++ [xv]) → w.grownBy w' (some c) → w'.heap.size = w.heap.size → wpList P ops Q rest (a.put o.dst undef) w') : wpList P ops Q (o :: rest) a w := by
  refine wpList_plain hg fun K' hK' => ?_
  obtain ⟨w', hrun, r1, r2, r3⟩ := run_put (P := P) w ht hk hmap hkey hne
  unfold Oper.wp
  simp [execOp, hop, hm, hx, hv, hrun, Result.andThen]
  exact hK' _ _ (hK w' r1 r2 r3)
theorem wpList_kept {P : Program} (w : World) {ops : Array Oper} {rest : List Oper} {o : Oper} {a : Act} {Q : Exit → Act → World → Prop}
    (hg : o.guard = none) (m x : Operand) (t : TypeId) (hop : o.op = Op.lookup t m x false) {k e T : TypeId} {ms : Array (String × TypeId)} {c b : Nat} {ks : List Value} {xv : Value} {g : Value → Bool}
    (ht : P.underlying t = some (.map k e)) (hk : P.underlying k = some (.interface ms)) (hmap : MapOf w c ks) (hkey : KeyV P w xv T b) (hz : (zeroValue e).run P w = .ok (.bool false) w) (hm : a.eval m = .map (some c)) (hx : a.eval x = xv)
    (hgs : ∀ y ∈ ks, (Op.equal k xv y).run P w = .ok (g y) w)
    (hK : wpList P ops Q rest (a.put o.dst (.bool (ks.any g))) w) : wpList P ops Q (o :: rest) a w := by
  refine wpList_plain hg fun K' hK' => ?_
  have hrun := run_kept (P := P) w ht hk hmap hkey hz hgs
  unfold Oper.wp
  simp [execOp, hop, hm, hx, hrun, Result.andThen]
  exact hK' _ _ hK
theorem run_len_map {P : Program} (w : World) {t k e : TypeId} (ht : P.underlying t = some (.map k e)) {c : Nat} {ks : List Value} (hm : MapOf w c ks) (ty : TypeId) : (Builtin.len_ #[t] ty #[.map (some c)]).run P w = .ok (.int .i64 ks.length) w := by
  obtain ⟨es, clock, hb, hks, _⟩ := hm
  have e : es.size = ks.length := by rw [← hks]; simp
  simp [Builtin.len_, run_underlying ht, MapKept.run_getObj_map hb, goInt, Result.andThen, e]
end Go.Proofs.Ytgeaokgcmhkoaaa
