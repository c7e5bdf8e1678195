/- Slices of raw comments and raw statements that come in, opened to their cells. Conditions: none. -/
import Derived.Test.YtfeibikakhmecaaChecked
import Derived.Test.YtfeibikakhmecaaKit
import Derived.Deep.Slices
import Derived.Deep.Fields
import Derived.ChangeSame
import Derived.OpenShut
namespace Go.Proofs.Ytfeibikakhmecaa
open Go.RowKit Go.ChangeShapes Go.WideShapes Go.Deep
set_option linter.unusedVariables false

/-- a raw comment: its three numbers and its text -/
structure RawC where
  o : Int
  l : Int
  c : Int
  s : ByteArray
instance : Inhabited RawC := ⟨⟨0, 0, 0, ByteArray.empty⟩⟩
def RawC.ok (z : RawC) : Prop := (0 ≤ z.o ∧ z.o ≤ 4294967295) ∧ (0 ≤ z.l ∧ z.l ≤ 4294967295) ∧ (0 ≤ z.c ∧ z.c ≤ 4294967295) ∧ z.s.size ≤ maxLen
def ComAt (w : World) (b o i : Nat) (z : RawC) : Prop :=
  w.cell? ⟨b, o + i * 4, none⟩ = some (.int .u32 z.o) ∧ w.cell? ⟨b, o + i * 4 + 1, none⟩ = some (.int .u32 z.l) ∧ w.cell? ⟨b, o + i * 4 + 2, none⟩ = some (.int .u32 z.c) ∧ w.cell? ⟨b, o + i * 4 + 3, none⟩ = some (.string z.s)
/-- a slice of raw comments -/
def IsComs (w : World) (a : Option Addr) (len cap : Nat) (f : Nat → RawC) : Prop :=
  (a = none ∧ len = 0 ∧ cap = 0) ∨ (∃ x, a = some x ∧ len = 0 ∧ cap ≤ maxLen) ∨ ∃ b o : Nat, a = some ⟨b, o, none⟩ ∧ 0 < len ∧ len ≤ cap ∧ cap ≤ maxLen ∧ ∀ i, i < len → ComAt w b o i (f i) ∧ (f i).ok
/-- a raw statement: its three numbers and its comments -/
structure RawS where
  o : Int
  l : Int
  c : Int
  a : Option Addr
  len : Nat
  cap : Nat
  f : Nat → RawC
instance : Inhabited RawS := ⟨⟨0, 0, 0, none, 0, 0, fun _ => default⟩⟩
def StmtAt (w : World) (b o i : Nat) (z : RawS) : Prop :=
  w.cell? ⟨b, o + i * 4, none⟩ = some (.int .u32 z.o) ∧ w.cell? ⟨b, o + i * 4 + 1, none⟩ = some (.int .u32 z.l) ∧ w.cell? ⟨b, o + i * 4 + 2, none⟩ = some (.int .u32 z.c) ∧ w.cell? ⟨b, o + i * 4 + 3, none⟩ = some (.slice z.a z.len z.cap) ∧
    ((0 ≤ z.o ∧ z.o ≤ 4294967295) ∧ (0 ≤ z.l ∧ z.l ≤ 4294967295) ∧ (0 ≤ z.c ∧ z.c ≤ 4294967295)) ∧ IsComs w z.a z.len z.cap z.f
/-- a slice of raw statements -/
def IsStmts (w : World) (a : Option Addr) (len cap : Nat) (f : Nat → RawS) : Prop :=
  (a = none ∧ len = 0 ∧ cap = 0) ∨ (∃ x, a = some x ∧ len = 0 ∧ cap ≤ maxLen) ∨ ∃ b o : Nat, a = some ⟨b, o, none⟩ ∧ 0 < len ∧ len ≤ cap ∧ cap ≤ maxLen ∧ ∀ i, i < len → StmtAt w b o i (f i)
theorem spot_of {w : World} {b o : Nat} {sp : Option Nat} {v : Value} (h : w.cell? ⟨b, o, sp⟩ = some v) : sp = none := by
  unfold World.cell? at h
  split at h
  · split at h
    · exact absurd h (by simp)
    · rename_i hs
      cases sp with
      | none => rfl
      | some _ => simp at hs
  · exact absurd h (by simp)

section
variable {H : Type} {enc : TypeId × Value → H} {w : World} {base : Nat} {spare : Nat → Bool} {held : Bool}
theorem open_zpos {fuel : Nat} {cs : List Value} {x : DataW H × List MemPlace} (h : DataW.trod enc Try.prog w base spare held fuel 38 cs = some x) :
    ∃ o l c, cs = [.int .u32 o, .int .u32 l, .int .u32 c] ∧ (0 ≤ o ∧ o ≤ 4294967295) ∧ (0 ≤ l ∧ l ≤ 4294967295) ∧ (0 ≤ c ∧ c ≤ 4294967295) := by
  obtain ⟨xs, n, _, _, hlen, hxl, hf⟩ := DataW.trod_struct Try.underlying38 h
  have hC : Try.prog.cellsOf 38 = 3 := by kernel_rfl
  have hU : Try.prog.cellsOf 27 = 1 := by kernel_rfl
  rw [hC] at hlen
  match cs, hlen with
  | [v0, v1, v2], _ =>
    have hx : xs.length = 3 := hxl
    have h0 : DataW.trod enc Try.prog w base spare held n 27 (([v0, v1, v2].drop 0).take (Try.prog.cellsOf 27)) = some (xs[0]'(by omega)) := (hf 0 _ rfl).trans (List.getElem?_eq_getElem (by omega))
    have h1 : DataW.trod enc Try.prog w base spare held n 27 (([v0, v1, v2].drop 1).take (Try.prog.cellsOf 27)) = some (xs[1]'(by omega)) := (hf 1 _ rfl).trans (List.getElem?_eq_getElem (by omega))
    have h2 : DataW.trod enc Try.prog w base spare held n 27 (([v0, v1, v2].drop 2).take (Try.prog.cellsOf 27)) = some (xs[2]'(by omega)) := (hf 2 _ rfl).trans (List.getElem?_eq_getElem (by omega))
    rw [hU] at h0 h1 h2
    obtain ⟨o, e0, _, q0⟩ := DataW.trod_int Try.underlying27 h0
    obtain ⟨l, e1, _, q1⟩ := DataW.trod_int Try.underlying27 h1
    obtain ⟨c, e2, _, q2⟩ := DataW.trod_int Try.underlying27 h2
    injection e0 with e0
    injection e1 with e1
    injection e2 with e2
    subst e0 e1 e2
    exact ⟨o, l, c, rfl, bounds_u32 q0, bounds_u32 q1, bounds_u32 q2⟩
theorem open_zcom {fuel : Nat} {cs : List Value} {x : DataW H × List MemPlace} (h : DataW.trod enc Try.prog w base spare held fuel 40 cs = some x) :
    ∃ z : RawC, cs = [.int .u32 z.o, .int .u32 z.l, .int .u32 z.c, .string z.s] ∧ z.ok := by
  obtain ⟨xs, n, _, _, hlen, hxl, hf⟩ := DataW.trod_struct Try.underlying40 h
  have hC : Try.prog.cellsOf 40 = 4 := by kernel_rfl
  have hP : Try.prog.cellsOf 38 = 3 := by kernel_rfl
  have hS : Try.prog.cellsOf 9 = 1 := by kernel_rfl
  rw [hC] at hlen
  match cs, hlen with
  | [v0, v1, v2, v3], _ =>
    have hx : xs.length = 2 := hxl
    have h0 : DataW.trod enc Try.prog w base spare held n 38 (([v0, v1, v2, v3].drop 0).take (Try.prog.cellsOf 38)) = some (xs[0]'(by omega)) := (hf 0 _ rfl).trans (List.getElem?_eq_getElem (by omega))
    have h1 : DataW.trod enc Try.prog w base spare held n 9 (([v0, v1, v2, v3].drop 3).take (Try.prog.cellsOf 9)) = some (xs[1]'(by omega)) := (hf 1 _ rfl).trans (List.getElem?_eq_getElem (by omega))
    rw [hP] at h0
    rw [hS] at h1
    obtain ⟨o, l, c, e0, q0, q1, q2⟩ := open_zpos h0
    obtain ⟨s, e1, _, q3⟩ := DataW.trod_string Try.underlying9 h1
    simp at e0 e1
    obtain ⟨rfl, rfl, rfl⟩ := e0
    subst e1
    exact ⟨⟨o, l, c, s⟩, rfl, q0, q1, q2, q3⟩
theorem open_coms {fuel : Nat} {a : Option Addr} {len cap : Nat} {x : DataW H × List MemPlace} (h : DataW.trod enc Try.prog w base spare held fuel 32 [.slice a len cap] = some x) : ∃ f, IsComs w a len cap f := by
  have hC : Try.prog.cellsOf 40 = 4 := by kernel_rfl
  rcases open_slice Try.underlying32 h with ⟨hcs, _⟩ | ⟨a', len', cap', m, n, D, Pl, hcs, _, hl, hm, hmm, _, hx⟩
  · simp at hcs
    obtain ⟨rfl, rfl, rfl⟩ := hcs
    exact ⟨fun _ => default, .inl ⟨rfl, rfl, rfl⟩⟩
  · simp at hcs
    obtain ⟨rfl, rfl, rfl⟩ := hcs
    rw [hC] at hx
    by_cases h0 : len = 0
    · exact ⟨fun _ => default, .inr (.inl ⟨a', rfl, h0, hm⟩)⟩
    obtain ⟨b, o, sp⟩ := a'
    obtain rfl : sp = none := by
      obtain ⟨cs', h1, h2⟩ := hx 0 (by rw [hmm]; split <;> omega)
      obtain ⟨z, rfl, _⟩ := open_zcom h2
      obtain ⟨_, _, hc⟩ := World.cells?_some h1
      have k0 := hc 0 (by omega)
      rw [Deep.add_add] at k0
      exact spot_of k0
    obtain ⟨f, hf⟩ := choose_lt (α := RawC) (n := len) (p := fun i z => ComAt w b o i z ∧ z.ok) (fun i hi => by
      obtain ⟨cs', h1, h2⟩ := hx i (by rw [hmm]; split <;> omega)
      obtain ⟨z, rfl, hz⟩ := open_zcom h2
      obtain ⟨_, _, hc⟩ := World.cells?_some h1
      have k0 := hc 0 (by omega)
      have k1 := hc 1 (by omega)
      have k2 := hc 2 (by omega)
      have k3 := hc 3 (by omega)
      rw [Addr.add_lit, Addr.add_lit] at k0 k1 k2 k3
      exact ⟨z, ⟨k0, k1, k2, k3⟩, hz⟩)
    exact ⟨f, .inr (.inr ⟨b, o, rfl, by omega, hl, hm, hf⟩)⟩
theorem open_zstmt {fuel : Nat} {cs : List Value} {x : DataW H × List MemPlace} (h : DataW.trod enc Try.prog w base spare held fuel 51 cs = some x) :
    ∃ z : RawS, cs = [.int .u32 z.o, .int .u32 z.l, .int .u32 z.c, .slice z.a z.len z.cap] ∧ ((0 ≤ z.o ∧ z.o ≤ 4294967295) ∧ (0 ≤ z.l ∧ z.l ≤ 4294967295) ∧ (0 ≤ z.c ∧ z.c ≤ 4294967295)) ∧ IsComs w z.a z.len z.cap z.f := by
  obtain ⟨xs, n, _, _, hlen, hxl, hf⟩ := DataW.trod_struct Try.underlying51 h
  have hC : Try.prog.cellsOf 51 = 4 := by kernel_rfl
  have hP : Try.prog.cellsOf 38 = 3 := by kernel_rfl
  have hS : Try.prog.cellsOf 32 = 1 := by kernel_rfl
  rw [hC] at hlen
  match cs, hlen with
  | [v0, v1, v2, v3], _ =>
    have hx : xs.length = 2 := hxl
    have h0 : DataW.trod enc Try.prog w base spare held n 38 (([v0, v1, v2, v3].drop 0).take (Try.prog.cellsOf 38)) = some (xs[0]'(by omega)) := (hf 0 _ rfl).trans (List.getElem?_eq_getElem (by omega))
    have h1 : DataW.trod enc Try.prog w base spare held n 32 (([v0, v1, v2, v3].drop 3).take (Try.prog.cellsOf 32)) = some (xs[1]'(by omega)) := (hf 1 _ rfl).trans (List.getElem?_eq_getElem (by omega))
    rw [hP] at h0
    rw [hS] at h1
    obtain ⟨o, l, c, e0, q0, q1, q2⟩ := open_zpos h0
    simp at e0
    obtain ⟨rfl, rfl, rfl⟩ := e0
    have h2 : DataW.trod enc Try.prog w base spare held n 32 [v3] = some (xs[1]'(by omega)) := h1
    have hv : ∃ a len cap, v3 = .slice a len cap := by
      rcases open_slice Try.underlying32 h2 with ⟨hcs, _⟩ | ⟨a', len', cap', _, _, _, _, hcs, _⟩
      · exact ⟨none, 0, 0, by simpa using hcs⟩
      · exact ⟨_, _, _, by simpa using hcs⟩
    obtain ⟨a, len, cap, rfl⟩ := hv
    obtain ⟨f, hf⟩ := open_coms h2
    exact ⟨⟨o, l, c, a, len, cap, f⟩, rfl, ⟨q0, q1, q2⟩, hf⟩
theorem open_stmts {fuel : Nat} {a : Option Addr} {len cap : Nat} {x : DataW H × List MemPlace} (h : DataW.trod enc Try.prog w base spare held fuel 22 [.slice a len cap] = some x) : ∃ f, IsStmts w a len cap f := by
  have hC : Try.prog.cellsOf 51 = 4 := by kernel_rfl
  rcases open_slice Try.underlying22 h with ⟨hcs, _⟩ | ⟨a', len', cap', m, n, D, Pl, hcs, _, hl, hm, hmm, _, hx⟩
  · simp at hcs
    obtain ⟨rfl, rfl, rfl⟩ := hcs
    exact ⟨fun _ => default, .inl ⟨rfl, rfl, rfl⟩⟩
  · simp at hcs
    obtain ⟨rfl, rfl, rfl⟩ := hcs
    rw [hC] at hx
    by_cases h0 : len = 0
    · exact ⟨fun _ => default, .inr (.inl ⟨a', rfl, h0, hm⟩)⟩
    obtain ⟨b, o, sp⟩ := a'
    obtain rfl : sp = none := by
      obtain ⟨cs', h1, h2⟩ := hx 0 (by rw [hmm]; split <;> omega)
      obtain ⟨z, rfl, _⟩ := open_zstmt h2
      obtain ⟨_, _, hc⟩ := World.cells?_some h1
      have k0 := hc 0 (by omega)
      rw [Deep.add_add] at k0
      exact spot_of k0
    obtain ⟨f, hf⟩ := choose_lt (α := RawS) (n := len) (p := fun i z => StmtAt w b o i z) (fun i hi => by
      obtain ⟨cs', h1, h2⟩ := hx i (by rw [hmm]; split <;> omega)
      obtain ⟨z, rfl, hz, hz2⟩ := open_zstmt h2
      obtain ⟨_, _, hc⟩ := World.cells?_some h1
      have k0 := hc 0 (by omega)
      have k1 := hc 1 (by omega)
      have k2 := hc 2 (by omega)
      have k3 := hc 3 (by omega)
      rw [Addr.add_lit, Addr.add_lit] at k0 k1 k2 k3
      exact ⟨z, k0, k1, k2, k3, hz, hz2⟩)
    exact ⟨f, .inr (.inr ⟨b, o, rfl, by omega, hl, hm, hf⟩)⟩
end
end Go.Proofs.Ytfeibikakhmecaa
