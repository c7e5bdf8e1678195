/- Closed facts: what a type assertion with two results answers. Conditions: none. -/
import Derived.Test.YtdmmpgeaendjpaaChecked
import Derived.WalkKit
import Derived.LaidEqlPtr
import Derived.Lib.Builder
namespace Go.Proofs.Ytdmmpgeaendjpaa
open Go.RowKit
theorem as_ArithmExpr_Word_Word (v : Value) (w : World) : (Instr.typeAssert (.iface 33 v) 95 33 true).run Try.prog w = .ok (.tuple #[v, .bool true]) w := by kernel_rfl
theorem as_ArithmExpr_nil_Word (w : World) : (Instr.typeAssert .nilIface 95 33 true).run Try.prog w = .ok (.tuple #[.pointer none, .bool false]) w := by kernel_rfl
theorem as_WordPart_Lit_Lit (v : Value) (w : World) : (Instr.typeAssert (.iface 83 v) 39 83 true).run Try.prog w = .ok (.tuple #[v, .bool true]) w := by kernel_rfl
theorem as_WordPart_SglQuoted_Lit (v : Value) (w : World) : (Instr.typeAssert (.iface 86 v) 39 83 true).run Try.prog w = .ok (.tuple #[.pointer none, .bool false]) w := by kernel_rfl
theorem as_WordPart_DblQuoted_Lit (v : Value) (w : World) : (Instr.typeAssert (.iface 89 v) 39 83 true).run Try.prog w = .ok (.tuple #[.pointer none, .bool false]) w := by kernel_rfl
theorem as_WordPart_ParamExp_Lit (v : Value) (w : World) : (Instr.typeAssert (.iface 92 v) 39 83 true).run Try.prog w = .ok (.tuple #[.pointer none, .bool false]) w := by kernel_rfl
theorem as_WordPart_nil_Lit (w : World) : (Instr.typeAssert .nilIface 39 83 true).run Try.prog w = .ok (.tuple #[.pointer none, .bool false]) w := by kernel_rfl
theorem as_WordPart_Lit_SglQuoted (v : Value) (w : World) : (Instr.typeAssert (.iface 83 v) 39 86 true).run Try.prog w = .ok (.tuple #[.pointer none, .bool false]) w := by kernel_rfl
theorem as_WordPart_SglQuoted_SglQuoted (v : Value) (w : World) : (Instr.typeAssert (.iface 86 v) 39 86 true).run Try.prog w = .ok (.tuple #[v, .bool true]) w := by kernel_rfl
theorem as_WordPart_DblQuoted_SglQuoted (v : Value) (w : World) : (Instr.typeAssert (.iface 89 v) 39 86 true).run Try.prog w = .ok (.tuple #[.pointer none, .bool false]) w := by kernel_rfl
theorem as_WordPart_ParamExp_SglQuoted (v : Value) (w : World) : (Instr.typeAssert (.iface 92 v) 39 86 true).run Try.prog w = .ok (.tuple #[.pointer none, .bool false]) w := by kernel_rfl
theorem as_WordPart_nil_SglQuoted (w : World) : (Instr.typeAssert .nilIface 39 86 true).run Try.prog w = .ok (.tuple #[.pointer none, .bool false]) w := by kernel_rfl
theorem as_WordPart_Lit_DblQuoted (v : Value) (w : World) : (Instr.typeAssert (.iface 83 v) 39 89 true).run Try.prog w = .ok (.tuple #[.pointer none, .bool false]) w := by kernel_rfl
theorem as_WordPart_SglQuoted_DblQuoted (v : Value) (w : World) : (Instr.typeAssert (.iface 86 v) 39 89 true).run Try.prog w = .ok (.tuple #[.pointer none, .bool false]) w := by kernel_rfl
theorem as_WordPart_DblQuoted_DblQuoted (v : Value) (w : World) : (Instr.typeAssert (.iface 89 v) 39 89 true).run Try.prog w = .ok (.tuple #[v, .bool true]) w := by kernel_rfl
theorem as_WordPart_ParamExp_DblQuoted (v : Value) (w : World) : (Instr.typeAssert (.iface 92 v) 39 89 true).run Try.prog w = .ok (.tuple #[.pointer none, .bool false]) w := by kernel_rfl
theorem as_WordPart_nil_DblQuoted (w : World) : (Instr.typeAssert .nilIface 39 89 true).run Try.prog w = .ok (.tuple #[.pointer none, .bool false]) w := by kernel_rfl
theorem as_WordPart_Lit_ParamExp (v : Value) (w : World) : (Instr.typeAssert (.iface 83 v) 39 92 true).run Try.prog w = .ok (.tuple #[.pointer none, .bool false]) w := by kernel_rfl
theorem as_WordPart_SglQuoted_ParamExp (v : Value) (w : World) : (Instr.typeAssert (.iface 86 v) 39 92 true).run Try.prog w = .ok (.tuple #[.pointer none, .bool false]) w := by kernel_rfl
theorem as_WordPart_DblQuoted_ParamExp (v : Value) (w : World) : (Instr.typeAssert (.iface 89 v) 39 92 true).run Try.prog w = .ok (.tuple #[.pointer none, .bool false]) w := by kernel_rfl
theorem as_WordPart_ParamExp_ParamExp (v : Value) (w : World) : (Instr.typeAssert (.iface 92 v) 39 92 true).run Try.prog w = .ok (.tuple #[v, .bool true]) w := by kernel_rfl
theorem as_WordPart_nil_ParamExp (w : World) : (Instr.typeAssert .nilIface 39 92 true).run Try.prog w = .ok (.tuple #[.pointer none, .bool false]) w := by kernel_rfl
theorem eq_DblQuoted (a : Addr) (w : World) : (binOp .eql 89 (.pointer (some a)) (.pointer (some a))).run Try.prog w = .ok (.bool true) w := by
  obtain ⟨j, hj⟩ := Option.isSome_iff_exists.1 (show (Try.prog.info? 91).isSome = true by kernel_rfl)
  exact run_eql_ptr_same w a Try.underlying89 hj
theorem ne_DblQuoted (a : Addr) (w : World) : (binOp .neq 89 (.pointer (some a)) (.pointer (some a))).run Try.prog w = .ok (.bool false) w := by
  obtain ⟨j, hj⟩ := Option.isSome_iff_exists.1 (show (Try.prog.info? 91).isSome = true by kernel_rfl)
  exact Lib.run_neq_ptr_same w a Try.underlying89 hj
theorem eq_Lit (a : Addr) (w : World) : (binOp .eql 83 (.pointer (some a)) (.pointer (some a))).run Try.prog w = .ok (.bool true) w := by
  obtain ⟨j, hj⟩ := Option.isSome_iff_exists.1 (show (Try.prog.info? 85).isSome = true by kernel_rfl)
  exact run_eql_ptr_same w a Try.underlying83 hj
theorem ne_Lit (a : Addr) (w : World) : (binOp .neq 83 (.pointer (some a)) (.pointer (some a))).run Try.prog w = .ok (.bool false) w := by
  obtain ⟨j, hj⟩ := Option.isSome_iff_exists.1 (show (Try.prog.info? 85).isSome = true by kernel_rfl)
  exact Lib.run_neq_ptr_same w a Try.underlying83 hj
theorem eq_ParamExp (a : Addr) (w : World) : (binOp .eql 92 (.pointer (some a)) (.pointer (some a))).run Try.prog w = .ok (.bool true) w := by
  obtain ⟨j, hj⟩ := Option.isSome_iff_exists.1 (show (Try.prog.info? 102).isSome = true by kernel_rfl)
  exact run_eql_ptr_same w a Try.underlying92 hj
theorem ne_ParamExp (a : Addr) (w : World) : (binOp .neq 92 (.pointer (some a)) (.pointer (some a))).run Try.prog w = .ok (.bool false) w := by
  obtain ⟨j, hj⟩ := Option.isSome_iff_exists.1 (show (Try.prog.info? 102).isSome = true by kernel_rfl)
  exact Lib.run_neq_ptr_same w a Try.underlying92 hj
theorem eq_SglQuoted (a : Addr) (w : World) : (binOp .eql 86 (.pointer (some a)) (.pointer (some a))).run Try.prog w = .ok (.bool true) w := by
  obtain ⟨j, hj⟩ := Option.isSome_iff_exists.1 (show (Try.prog.info? 88).isSome = true by kernel_rfl)
  exact run_eql_ptr_same w a Try.underlying86 hj
theorem ne_SglQuoted (a : Addr) (w : World) : (binOp .neq 86 (.pointer (some a)) (.pointer (some a))).run Try.prog w = .ok (.bool false) w := by
  obtain ⟨j, hj⟩ := Option.isSome_iff_exists.1 (show (Try.prog.info? 88).isSome = true by kernel_rfl)
  exact Lib.run_neq_ptr_same w a Try.underlying86 hj
theorem eq_Word (a : Addr) (w : World) : (binOp .eql 33 (.pointer (some a)) (.pointer (some a))).run Try.prog w = .ok (.bool true) w := by
  obtain ⟨j, hj⟩ := Option.isSome_iff_exists.1 (show (Try.prog.info? 81).isSome = true by kernel_rfl)
  exact run_eql_ptr_same w a Try.underlying33 hj
theorem ne_Word (a : Addr) (w : World) : (binOp .neq 33 (.pointer (some a)) (.pointer (some a))).run Try.prog w = .ok (.bool false) w := by
  obtain ⟨j, hj⟩ := Option.isSome_iff_exists.1 (show (Try.prog.info? 81).isSome = true by kernel_rfl)
  exact Lib.run_neq_ptr_same w a Try.underlying33 hj
theorem eq_Stmt (a : Addr) (w : World) : (binOp .eql 140 (.pointer (some a)) (.pointer (some a))).run Try.prog w = .ok (.bool true) w := by
  obtain ⟨j, hj⟩ := Option.isSome_iff_exists.1 (show (Try.prog.info? 147).isSome = true by kernel_rfl)
  exact run_eql_ptr_same w a Try.underlying140 hj
theorem ne_Stmt (a : Addr) (w : World) : (binOp .neq 140 (.pointer (some a)) (.pointer (some a))).run Try.prog w = .ok (.bool false) w := by
  obtain ⟨j, hj⟩ := Option.isSome_iff_exists.1 (show (Try.prog.info? 147).isSome = true by kernel_rfl)
  exact Lib.run_neq_ptr_same w a Try.underlying140 hj
theorem eqi_ArithmExpr_Word (a : Addr) (w : World) : (binOp .eql 95 (.iface 33 (.pointer (some a))) (.iface 33 (.pointer (some a)))).run Try.prog w = .ok (.bool true) w := by
  obtain ⟨j, hj⟩ := Option.isSome_iff_exists.1 (show (Try.prog.info? 81).isSome = true by kernel_rfl)
  obtain ⟨i, hi⟩ := Option.isSome_iff_exists.1 (show (Try.prog.info? 33).isSome = true by kernel_rfl)
  have hc : i.comparable = true := by
    have h : (Try.prog.info? 33).map (·.comparable) = some true := by kernel_rfl
    rw [hi] at h
    simpa using h
  exact run_eql_iface_ptr_same w a Try.underlying95 Try.underlying33 hi hc hj
theorem eqi_WordPart_Lit (a : Addr) (w : World) : (binOp .eql 39 (.iface 83 (.pointer (some a))) (.iface 83 (.pointer (some a)))).run Try.prog w = .ok (.bool true) w := by
  obtain ⟨j, hj⟩ := Option.isSome_iff_exists.1 (show (Try.prog.info? 85).isSome = true by kernel_rfl)
  obtain ⟨i, hi⟩ := Option.isSome_iff_exists.1 (show (Try.prog.info? 83).isSome = true by kernel_rfl)
  have hc : i.comparable = true := by
    have h : (Try.prog.info? 83).map (·.comparable) = some true := by kernel_rfl
    rw [hi] at h
    simpa using h
  exact run_eql_iface_ptr_same w a Try.underlying39 Try.underlying83 hi hc hj
theorem eqi_WordPart_SglQuoted (a : Addr) (w : World) : (binOp .eql 39 (.iface 86 (.pointer (some a))) (.iface 86 (.pointer (some a)))).run Try.prog w = .ok (.bool true) w := by
  obtain ⟨j, hj⟩ := Option.isSome_iff_exists.1 (show (Try.prog.info? 88).isSome = true by kernel_rfl)
  obtain ⟨i, hi⟩ := Option.isSome_iff_exists.1 (show (Try.prog.info? 86).isSome = true by kernel_rfl)
  have hc : i.comparable = true := by
    have h : (Try.prog.info? 86).map (·.comparable) = some true := by kernel_rfl
    rw [hi] at h
    simpa using h
  exact run_eql_iface_ptr_same w a Try.underlying39 Try.underlying86 hi hc hj
theorem eqi_WordPart_DblQuoted (a : Addr) (w : World) : (binOp .eql 39 (.iface 89 (.pointer (some a))) (.iface 89 (.pointer (some a)))).run Try.prog w = .ok (.bool true) w := by
  obtain ⟨j, hj⟩ := Option.isSome_iff_exists.1 (show (Try.prog.info? 91).isSome = true by kernel_rfl)
  obtain ⟨i, hi⟩ := Option.isSome_iff_exists.1 (show (Try.prog.info? 89).isSome = true by kernel_rfl)
  have hc : i.comparable = true := by
    have h : (Try.prog.info? 89).map (·.comparable) = some true := by kernel_rfl
    rw [hi] at h
    simpa using h
  exact run_eql_iface_ptr_same w a Try.underlying39 Try.underlying89 hi hc hj
theorem eqi_WordPart_ParamExp (a : Addr) (w : World) : (binOp .eql 39 (.iface 92 (.pointer (some a))) (.iface 92 (.pointer (some a)))).run Try.prog w = .ok (.bool true) w := by
  obtain ⟨j, hj⟩ := Option.isSome_iff_exists.1 (show (Try.prog.info? 102).isSome = true by kernel_rfl)
  obtain ⟨i, hi⟩ := Option.isSome_iff_exists.1 (show (Try.prog.info? 92).isSome = true by kernel_rfl)
  have hc : i.comparable = true := by
    have h : (Try.prog.info? 92).map (·.comparable) = some true := by kernel_rfl
    rw [hi] at h
    simpa using h
  exact run_eql_iface_ptr_same w a Try.underlying39 Try.underlying92 hi hc hj
end Go.Proofs.Ytdmmpgeaendjpaa
