/- What markIndex records of a tree, and how it is asked for. Conditions: the cells. -/
import Derived.Test.YtgeaokgcmhkoaaaTree
import Derived.Test.YtgeaokgcmhkoaaaSimp
import Derived.Maps.OwnSet
namespace Go.Proofs.Ytgeaokgcmhkoaaa
open Go.RowKit
set_option linter.unusedVariables false
set_option linter.unusedSimpArgs false

theorem ptr_W : PtrT Try.prog 42 := ptr_of Try.underlying42 (by kernel_rfl) (by kernel_rfl)
theorem ptr_B : PtrT Try.prog 60 := ptr_of Try.underlying60 (by kernel_rfl) (by kernel_rfl)
theorem ptr_P : PtrT Try.prog 48 := ptr_of Try.underlying48 (by kernel_rfl) (by kernel_rfl)
theorem ptr_U : PtrT Try.prog 89 := ptr_of Try.underlying89 (by kernel_rfl) (by kernel_rfl)
theorem ptr_F : PtrT Try.prog 93 := ptr_of Try.underlying93 (by kernel_rfl) (by kernel_rfl)
/-- the values whose wish is true -/
def keptL : List Value → List Bool → List Value
  | x :: vs, true :: ws => x :: keptL vs ws
  | _ :: vs, false :: ws => keptL vs ws
  | _, _ => []
theorem keptL_app : ∀ (v1 v2 : List Value) (w1 w2 : List Bool), v1.length = w1.length → keptL (v1 ++ v2) (w1 ++ w2) = keptL v1 w1 ++ keptL v2 w2
  | [], _, [], _, _ => by simp [keptL]
  | [], _, _ :: _, _, h => by simp at h
  | _ :: _, _, [], _, h => by simp at h
  | x :: v1, v2, true :: w1, w2, h => by
    have := keptL_app v1 v2 w1 w2 (by simpa using h)
    simp [keptL, this]
  | x :: v1, v2, false :: w1, w2, h => by
    have := keptL_app v1 v2 w1 w2 (by simpa using h)
    simp [keptL, this]
theorem keptL_sub : ∀ (vs : List Value) (ws : List Bool) (y : Value), y ∈ keptL vs ws → y ∈ vs
  | x :: vs, true :: ws, y, h => by
    simp only [keptL, List.mem_cons] at h
    rcases h with h | h
    · exact h ▸ .head _
    · exact .tail _ (keptL_sub vs ws y h)
  | x :: vs, false :: ws, y, h => .tail _ (keptL_sub vs ws y (by simpa [keptL] using h))
  | [], _, _, h => by simp [keptL] at h
  | _ :: _, [], _, h => by simp [keptL] at h
theorem keptL_none : ∀ (vs : List Value) (ws : List Bool), (∀ b ∈ ws, b = false) → keptL vs ws = []
  | x :: vs, true :: ws, h => by have := h true (.head _); cases this
  | x :: vs, false :: ws, h => by simp only [keptL]; exact keptL_none vs ws (fun b hb => h b (.tail _ hb))
  | [], _, _ => by simp [keptL]
  | _ :: _, [], _ => by simp [keptL]
theorem Rep.len {W : World} : ∀ {d : Nat} {r : Bool} {lo hi : Nat} {x : Value} {vs : List Value} {ws : List Bool}, Rep W d r lo hi x vs ws → vs.length = ws.length
  | 0, _, _, _, _, _, _, h => h.elim
  | d + 1, r, lo, hi, x, vs, ws, h => by
    rcases h with ⟨b, e, hl, hb, ht, rfl, rfl⟩ | ⟨b, m, x1, x2, v1, v2, w1, w2, e, hl, hb, ht, c1, c2, r1, r2, rfl, rfl⟩ | ⟨b, x1, v1, w1, e, hl, hb, ht, c1, r1, rfl, rfl⟩ | ⟨b, x1, v1, w1, e, hl, hb, ht, c1, r1, rfl, rfl⟩ | ⟨b, x1, v1, w1, e, hl, hb, ht, r1, rfl, rfl⟩
    · rfl
    · simp [Rep.len r1, Rep.len r2]
    · simp [Rep.len r1]
    · simp [Rep.len r1]
    · simp [Rep.len r1]
theorem Rep.none {W : World} : ∀ {d : Nat} {lo hi : Nat} {x : Value} {vs : List Value} {ws : List Bool}, Rep W d false lo hi x vs ws → ∀ b ∈ ws, b = false
  | 0, _, _, _, _, _, h => h.elim
  | d + 1, lo, hi, x, vs, ws, h => by
    rcases h with ⟨b, e, hl, hb, ht, rfl, rfl⟩ | ⟨b, m, x1, x2, v1, v2, w1, w2, e, hl, hb, ht, c1, c2, r1, r2, rfl, rfl⟩ | ⟨b, x1, v1, w1, e, hl, hb, ht, c1, r1, rfl, rfl⟩ | ⟨b, x1, v1, w1, e, hl, hb, ht, c1, r1, rfl, rfl⟩ | ⟨b, x1, v1, w1, e, hl, hb, ht, r1, rfl, rfl⟩
    · simp
    · intro b hb
      simp only [List.mem_cons, List.mem_append] at hb
      rcases hb with hb | hb | hb
      · exact hb
      · exact Rep.none r1 b hb
      · exact Rep.none r2 b hb
    all_goals
      intro b hb
      simp only [List.mem_cons] at hb
      rcases hb with hb | hb
      · exact hb
      · exact Rep.none r1 b hb
/-- the block of a node -/
def blk : Value → Nat
  | .iface _ (.pointer (some a)) => a.block
  | _ => 0
/-- each node is a key, and its block lies in the tree's stretch -/
def KeyIn (W : World) (lo hi : Nat) (y : Value) : Prop := ∃ T b, KeyV Try.prog W y T b ∧ lo ≤ b ∧ b < hi
theorem KeyIn.wide {W : World} {lo hi lo' hi' : Nat} {y : Value} (h : KeyIn W lo hi y) (h1 : lo' ≤ lo) (h2 : hi ≤ hi') : KeyIn W lo' hi' y := by obtain ⟨T, b, k, h3, h4⟩ := h; exact ⟨T, b, k, by omega, by omega⟩
theorem Rep.keys {W : World} : ∀ {d : Nat} {r : Bool} {lo hi : Nat} {x : Value} {vs : List Value} {ws : List Bool}, Rep W d r lo hi x vs ws → ∀ y ∈ vs, KeyIn W lo hi y
  | 0, _, _, _, _, _, _, h => h.elim
  | d + 1, r, lo, hi, x, vs, ws, h => by
    rcases h with ⟨b, rfl, hl, hb, ht, rfl, rfl⟩ | ⟨b, m, x1, x2, v1, v2, w1, w2, rfl, hl, hb, ht, c1, c2, r1, r2, rfl, rfl⟩ | ⟨b, x1, v1, w1, rfl, hl, hb, ht, c1, r1, rfl, rfl⟩ | ⟨b, x1, v1, w1, rfl, hl, hb, ht, c1, r1, rfl, rfl⟩ | ⟨b, x1, v1, w1, rfl, hl, hb, ht, r1, rfl, rfl⟩
    · intro y hy
      simp only [List.mem_singleton] at hy
      subst hy
      exact ⟨_, b, ⟨rfl, ptr_W, _, ht⟩, hl, hb⟩
    · intro y hy
      simp only [List.mem_cons, List.mem_append] at hy
      have h1 := Rep.lohi r1
      have h2 := Rep.lohi r2
      rcases hy with rfl | hy | hy
      · exact ⟨_, b, ⟨rfl, ptr_B, _, ht⟩, hl, hb⟩
      · exact (Rep.keys r1 y hy).wide (by omega) (by omega)
      · exact (Rep.keys r2 y hy).wide (by omega) (by omega)
    · intro y hy
      simp only [List.mem_cons] at hy
      rcases hy with rfl | hy
      · exact ⟨_, b, ⟨rfl, ptr_P, _, ht⟩, hl, hb⟩
      · exact (Rep.keys r1 y hy).wide (by omega) (by omega)
    · intro y hy
      simp only [List.mem_cons] at hy
      rcases hy with rfl | hy
      · exact ⟨_, b, ⟨rfl, ptr_U, _, ht⟩, hl, hb⟩
      · exact (Rep.keys r1 y hy).wide (by omega) (by omega)
    · intro y hy
      simp only [List.mem_cons] at hy
      rcases hy with rfl | hy
      · exact ⟨_, b, ⟨rfl, ptr_F, _, ht⟩, hl, hb⟩
      · exact (Rep.keys r1 y hy).wide (by omega) (by omega)
theorem KeyIn.blk {W : World} {lo hi : Nat} {y : Value} (h : KeyIn W lo hi y) : lo ≤ blk y ∧ blk y < hi := by
  obtain ⟨T, b, ⟨rfl, _⟩, h1, h2⟩ := h
  exact ⟨h1, h2⟩
theorem Rep.sorted {W : World} : ∀ {d : Nat} {r : Bool} {lo hi : Nat} {x : Value} {vs : List Value} {ws : List Bool}, Rep W d r lo hi x vs ws → vs.Pairwise (fun y z => blk y < blk z)
  | 0, _, _, _, _, _, _, h => h.elim
  | d + 1, r, lo, hi, x, vs, ws, h => by
    rcases h with ⟨b, rfl, hl, hb, ht, rfl, rfl⟩ | ⟨b, m, x1, x2, v1, v2, w1, w2, rfl, hl, hb, ht, c1, c2, r1, r2, rfl, rfl⟩ | ⟨b, x1, v1, w1, rfl, hl, hb, ht, c1, r1, rfl, rfl⟩ | ⟨b, x1, v1, w1, rfl, hl, hb, ht, c1, r1, rfl, rfl⟩ | ⟨b, x1, v1, w1, rfl, hl, hb, ht, r1, rfl, rfl⟩
    · simp
    · have h1 := Rep.lohi r1
      refine List.pairwise_cons.2 ⟨fun y hy => ?_, List.pairwise_append.2 ⟨Rep.sorted r1, Rep.sorted r2, fun y hy z hz => ?_⟩⟩
      · show b < blk y
        rcases List.mem_append.1 hy with hy | hy
        · have := (Rep.keys r1 y hy).blk; omega
        · have := (Rep.keys r2 y hy).blk; omega
      · have := (Rep.keys r1 y hy).blk
        have := (Rep.keys r2 z hz).blk
        omega
    all_goals
      refine List.pairwise_cons.2 ⟨fun y hy => ?_, Rep.sorted r1⟩
      show b < blk y
      have := (Rep.keys r1 y hy).blk
      omega
theorem keep_key {W W' : World} {c lo hi : Nat} {ks : List Value} {y : Value} (hm : MapOf W c ks) (hg : W.grownBy W' (some c)) (h : KeyIn W lo hi y) : KeyIn W' lo hi y := by
  obtain ⟨T, b, ⟨e, hp, S, C, hC⟩, h1, h2⟩ := h
  refine ⟨T, b, ⟨e, hp, S, C, ?_⟩, h1, h2⟩
  rw [hg.block b (Array.getElem?_eq_some_iff.1 hC).1 (fun e => ?_)]
  · exact hC
  · injection e with e
    subst e
    obtain ⟨es, clock, hb, _⟩ := hm
    rw [hC] at hb
    cases hb
theorem nk_map {W W' : World} {c : Nat} {ks : List Value} (hm : MapOf W c ks) (hg : W.grownBy W' (some c)) : NK 0 W W' := fun k C T _ hk _ => by
  rw [hg.block k (Array.getElem?_eq_some_iff.1 hk).1 (fun e => ?_)]
  · exact hk
  · injection e with e
    subst e
    obtain ⟨es, clock, hb, _⟩ := hm
    rw [hk] at hb
    cases hb
theorem keys_differ {W : World} {lo hi lo2 hi2 : Nat} {x y : Value} (hx : KeyIn W lo hi x) (hy : KeyIn W lo2 hi2 y) (h : hi2 ≤ lo) : (Op.equal 34 x y).run Try.prog W = .ok false W := by
  obtain ⟨T, b, kx, h1, h2⟩ := hx
  obtain ⟨U, b', ky, h3, h4⟩ := hy
  have hne : ¬ b = b' := by omega
  rw [run_equal_keys W Try.underlying34 kx ky (fun e => absurd e hne)]
  simp [hne]
end Go.Proofs.Ytgeaokgcmhkoaaa
