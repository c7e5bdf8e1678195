/-
  DERIVED: THE SHELF's CONTRACTS AT THIS DUMP, IN PLAIN WORDS (tools/lay-plain.mjs out of 'YthdbfebfgomnpaaFmtShelf.lean', which tools/lay-shelf.mjs wrote): THE SAME DECLARATIONS UNDER THE SAME NAMES: 'import', 'namespace', 'open', 'def', 'theorem' AND NOTHING ELSE: no command of the shelf's: FOR A HAND-IN. Each laying: the table of numbers ('.._ren') and one theorem, a field a fact of the dump's own or the kernel's comparison; each contract: ONE APPLICATION.
-/
import Derived.Shelf.SlGeneric
import Derived.Ground.GgzProg
import Derived.Shelf.SlIterI.Collect
import Derived.Test.YthdbfebfgomnpaaFmtProg
namespace Go.Proofs
open Go.Shelf
def Tryf.laysC_ren : Go.Shelf.Ren := ⟨fun | 8 => 16 | 11 => 18 | n => n, fun | 26 => 29 | 28 => 69 | 24 => 32 | 0 => 0 | 33 => 64 | 4 => 4 | n => n, fun | n => n⟩
theorem Tryf.laysC : Go.Proofs.SlLaysZI.n8 Tryf.prog Tryf.laysC_ren := {
  mixed := by kernel_rfl
  f8 := ⟨Tryf.f16.name, by decide, Tryf.func16.trans (congrArg some (by kernel_rfl))⟩
  f11 := ⟨Tryf.f18.name, by decide, Tryf.func18.trans (congrArg some (by kernel_rfl))⟩
  t0 := Tryf.underlying0
  a0 := Tryf.isAgg0
  z0 := Tryf.sizeOf0
  v0 := Tryf.zeroValue0
  t24 := Tryf.underlying32
  a24 := Tryf.isAgg32
  z24 := Tryf.sizeOf32
  v24 := Tryf.zeroValue32
  t26 := Tryf.underlying29
  a26 := Tryf.isAgg29
  z26 := Tryf.sizeOf29
  v26 := Tryf.zeroValue29
  t28 := Tryf.underlying69
  a28 := Tryf.isAgg69
  z28 := Tryf.sizeOf69
  v28 := Tryf.zeroValue69
  i26 := by kernel_rfl }
theorem Tryf.slices_Collect (F : Fence) (n : Nat) (h8 : F.fn 16) (h11 : F.fn 18) (hro : F.round = none) (hn : 3 ≤ n) (g : Nat) (lb : Array Value) (hFg : F.fn g) (eg : ∀ args w, (callFunc g args).run Tryf.prog w = .ok (.enter g args) w) (S : List Int → Prop) (N : Nat) (hN : N ≤ maxLen) (hNb : N * 8 ≤ 140737488355328) (w : World) (hseq : SeqGives F (n - 1 - 1) Tryf.prog g lb encZ S N w) :
    CallsIn F n Tryf.prog 16 #[.func (.func g) #[] lb] w fun e w' => ∃ (v : Value) (ss : List Int), e = .returned v ∧ S ss ∧ w'.ownsRow w.heap.size 29 1 v ss.length (ss.map encZ) ∧ (v = .slice none 0 0 ↔ ss = []) ∧ Go.RowKit.Below w.heap.size w w' := AnyZI.collect_in Tryf.laysC F n h8 h11 hro hn g lb hFg eg S N hN hNb w hseq
end Go.Proofs
