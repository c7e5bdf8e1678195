/- Closed facts: what a type assertion with two results answers. Conditions: none. -/
import Derived.Test.YtoankohalfnemaaChecked
import Derived.WalkKit
import Derived.LaidEqlPtr
import Derived.Lib.Builder
namespace Go.Proofs.Ytoankohalfnemaa
open Go.RowKit
theorem as_TestExpr_Word_Word (v : Value) (w : World) : (Instr.typeAssert (.iface 34 v) 49 34 true).run Try.prog w = .ok (.tuple #[v, .bool true]) w := by kernel_rfl
theorem as_TestExpr_UnaryTest_Word (v : Value) (w : World) : (Instr.typeAssert (.iface 59 v) 49 34 true).run Try.prog w = .ok (.tuple #[.pointer none, .bool false]) w := by kernel_rfl
theorem as_TestExpr_BinaryTest_Word (v : Value) (w : World) : (Instr.typeAssert (.iface 60 v) 49 34 true).run Try.prog w = .ok (.tuple #[.pointer none, .bool false]) w := by kernel_rfl
theorem as_TestExpr_ParenTest_Word (v : Value) (w : World) : (Instr.typeAssert (.iface 66 v) 49 34 true).run Try.prog w = .ok (.tuple #[.pointer none, .bool false]) w := by kernel_rfl
theorem as_TestExpr_nil_Word (w : World) : (Instr.typeAssert .nilIface 49 34 true).run Try.prog w = .ok (.tuple #[.pointer none, .bool false]) w := by kernel_rfl
theorem as_TestExpr_Word_UnaryTest (v : Value) (w : World) : (Instr.typeAssert (.iface 34 v) 49 59 true).run Try.prog w = .ok (.tuple #[.pointer none, .bool false]) w := by kernel_rfl
theorem as_TestExpr_UnaryTest_UnaryTest (v : Value) (w : World) : (Instr.typeAssert (.iface 59 v) 49 59 true).run Try.prog w = .ok (.tuple #[v, .bool true]) w := by kernel_rfl
theorem as_TestExpr_BinaryTest_UnaryTest (v : Value) (w : World) : (Instr.typeAssert (.iface 60 v) 49 59 true).run Try.prog w = .ok (.tuple #[.pointer none, .bool false]) w := by kernel_rfl
theorem as_TestExpr_ParenTest_UnaryTest (v : Value) (w : World) : (Instr.typeAssert (.iface 66 v) 49 59 true).run Try.prog w = .ok (.tuple #[.pointer none, .bool false]) w := by kernel_rfl
theorem as_TestExpr_nil_UnaryTest (w : World) : (Instr.typeAssert .nilIface 49 59 true).run Try.prog w = .ok (.tuple #[.pointer none, .bool false]) w := by kernel_rfl
theorem as_TestExpr_Word_BinaryTest (v : Value) (w : World) : (Instr.typeAssert (.iface 34 v) 49 60 true).run Try.prog w = .ok (.tuple #[.pointer none, .bool false]) w := by kernel_rfl
theorem as_TestExpr_UnaryTest_BinaryTest (v : Value) (w : World) : (Instr.typeAssert (.iface 59 v) 49 60 true).run Try.prog w = .ok (.tuple #[.pointer none, .bool false]) w := by kernel_rfl
theorem as_TestExpr_BinaryTest_BinaryTest (v : Value) (w : World) : (Instr.typeAssert (.iface 60 v) 49 60 true).run Try.prog w = .ok (.tuple #[v, .bool true]) w := by kernel_rfl
theorem as_TestExpr_ParenTest_BinaryTest (v : Value) (w : World) : (Instr.typeAssert (.iface 66 v) 49 60 true).run Try.prog w = .ok (.tuple #[.pointer none, .bool false]) w := by kernel_rfl
theorem as_TestExpr_nil_BinaryTest (w : World) : (Instr.typeAssert .nilIface 49 60 true).run Try.prog w = .ok (.tuple #[.pointer none, .bool false]) w := by kernel_rfl
theorem as_TestExpr_Word_ParenTest (v : Value) (w : World) : (Instr.typeAssert (.iface 34 v) 49 66 true).run Try.prog w = .ok (.tuple #[.pointer none, .bool false]) w := by kernel_rfl
theorem as_TestExpr_UnaryTest_ParenTest (v : Value) (w : World) : (Instr.typeAssert (.iface 59 v) 49 66 true).run Try.prog w = .ok (.tuple #[.pointer none, .bool false]) w := by kernel_rfl
theorem as_TestExpr_BinaryTest_ParenTest (v : Value) (w : World) : (Instr.typeAssert (.iface 60 v) 49 66 true).run Try.prog w = .ok (.tuple #[.pointer none, .bool false]) w := by kernel_rfl
theorem as_TestExpr_ParenTest_ParenTest (v : Value) (w : World) : (Instr.typeAssert (.iface 66 v) 49 66 true).run Try.prog w = .ok (.tuple #[v, .bool true]) w := by kernel_rfl
theorem as_TestExpr_nil_ParenTest (w : World) : (Instr.typeAssert .nilIface 49 66 true).run Try.prog w = .ok (.tuple #[.pointer none, .bool false]) w := by kernel_rfl
theorem as_ArithmExpr_Word_Word (v : Value) (w : World) : (Instr.typeAssert (.iface 34 v) 40 34 true).run Try.prog w = .ok (.tuple #[v, .bool true]) w := by kernel_rfl
theorem as_ArithmExpr_UnaryArithm_Word (v : Value) (w : World) : (Instr.typeAssert (.iface 80 v) 40 34 true).run Try.prog w = .ok (.tuple #[.pointer none, .bool false]) w := by kernel_rfl
theorem as_ArithmExpr_BinaryArithm_Word (v : Value) (w : World) : (Instr.typeAssert (.iface 79 v) 40 34 true).run Try.prog w = .ok (.tuple #[.pointer none, .bool false]) w := by kernel_rfl
theorem as_ArithmExpr_ParenArithm_Word (v : Value) (w : World) : (Instr.typeAssert (.iface 78 v) 40 34 true).run Try.prog w = .ok (.tuple #[.pointer none, .bool false]) w := by kernel_rfl
theorem as_ArithmExpr_nil_Word (w : World) : (Instr.typeAssert .nilIface 40 34 true).run Try.prog w = .ok (.tuple #[.pointer none, .bool false]) w := by kernel_rfl
theorem as_ArithmExpr_Word_UnaryArithm (v : Value) (w : World) : (Instr.typeAssert (.iface 34 v) 40 80 true).run Try.prog w = .ok (.tuple #[.pointer none, .bool false]) w := by kernel_rfl
theorem as_ArithmExpr_UnaryArithm_UnaryArithm (v : Value) (w : World) : (Instr.typeAssert (.iface 80 v) 40 80 true).run Try.prog w = .ok (.tuple #[v, .bool true]) w := by kernel_rfl
theorem as_ArithmExpr_BinaryArithm_UnaryArithm (v : Value) (w : World) : (Instr.typeAssert (.iface 79 v) 40 80 true).run Try.prog w = .ok (.tuple #[.pointer none, .bool false]) w := by kernel_rfl
theorem as_ArithmExpr_ParenArithm_UnaryArithm (v : Value) (w : World) : (Instr.typeAssert (.iface 78 v) 40 80 true).run Try.prog w = .ok (.tuple #[.pointer none, .bool false]) w := by kernel_rfl
theorem as_ArithmExpr_nil_UnaryArithm (w : World) : (Instr.typeAssert .nilIface 40 80 true).run Try.prog w = .ok (.tuple #[.pointer none, .bool false]) w := by kernel_rfl
theorem as_ArithmExpr_Word_BinaryArithm (v : Value) (w : World) : (Instr.typeAssert (.iface 34 v) 40 79 true).run Try.prog w = .ok (.tuple #[.pointer none, .bool false]) w := by kernel_rfl
theorem as_ArithmExpr_UnaryArithm_BinaryArithm (v : Value) (w : World) : (Instr.typeAssert (.iface 80 v) 40 79 true).run Try.prog w = .ok (.tuple #[.pointer none, .bool false]) w := by kernel_rfl
theorem as_ArithmExpr_BinaryArithm_BinaryArithm (v : Value) (w : World) : (Instr.typeAssert (.iface 79 v) 40 79 true).run Try.prog w = .ok (.tuple #[v, .bool true]) w := by kernel_rfl
theorem as_ArithmExpr_ParenArithm_BinaryArithm (v : Value) (w : World) : (Instr.typeAssert (.iface 78 v) 40 79 true).run Try.prog w = .ok (.tuple #[.pointer none, .bool false]) w := by kernel_rfl
theorem as_ArithmExpr_nil_BinaryArithm (w : World) : (Instr.typeAssert .nilIface 40 79 true).run Try.prog w = .ok (.tuple #[.pointer none, .bool false]) w := by kernel_rfl
theorem as_ArithmExpr_Word_ParenArithm (v : Value) (w : World) : (Instr.typeAssert (.iface 34 v) 40 78 true).run Try.prog w = .ok (.tuple #[.pointer none, .bool false]) w := by kernel_rfl
theorem as_ArithmExpr_UnaryArithm_ParenArithm (v : Value) (w : World) : (Instr.typeAssert (.iface 80 v) 40 78 true).run Try.prog w = .ok (.tuple #[.pointer none, .bool false]) w := by kernel_rfl
theorem as_ArithmExpr_BinaryArithm_ParenArithm (v : Value) (w : World) : (Instr.typeAssert (.iface 79 v) 40 78 true).run Try.prog w = .ok (.tuple #[.pointer none, .bool false]) w := by kernel_rfl
theorem as_ArithmExpr_ParenArithm_ParenArithm (v : Value) (w : World) : (Instr.typeAssert (.iface 78 v) 40 78 true).run Try.prog w = .ok (.tuple #[v, .bool true]) w := by kernel_rfl
theorem as_ArithmExpr_nil_ParenArithm (w : World) : (Instr.typeAssert .nilIface 40 78 true).run Try.prog w = .ok (.tuple #[.pointer none, .bool false]) w := by kernel_rfl
theorem as_WordPart_Lit_Lit (v : Value) (w : World) : (Instr.typeAssert (.iface 36 v) 122 36 true).run Try.prog w = .ok (.tuple #[v, .bool true]) w := by kernel_rfl
theorem as_WordPart_DblQuoted_Lit (v : Value) (w : World) : (Instr.typeAssert (.iface 45 v) 122 36 true).run Try.prog w = .ok (.tuple #[.pointer none, .bool false]) w := by kernel_rfl
theorem as_WordPart_ParamExp_Lit (v : Value) (w : World) : (Instr.typeAssert (.iface 35 v) 122 36 true).run Try.prog w = .ok (.tuple #[.pointer none, .bool false]) w := by kernel_rfl
theorem as_WordPart_CmdSubst_Lit (v : Value) (w : World) : (Instr.typeAssert (.iface 136 v) 122 36 true).run Try.prog w = .ok (.tuple #[.pointer none, .bool false]) w := by kernel_rfl
theorem as_WordPart_nil_Lit (w : World) : (Instr.typeAssert .nilIface 122 36 true).run Try.prog w = .ok (.tuple #[.pointer none, .bool false]) w := by kernel_rfl
theorem as_WordPart_Lit_DblQuoted (v : Value) (w : World) : (Instr.typeAssert (.iface 36 v) 122 45 true).run Try.prog w = .ok (.tuple #[.pointer none, .bool false]) w := by kernel_rfl
theorem as_WordPart_DblQuoted_DblQuoted (v : Value) (w : World) : (Instr.typeAssert (.iface 45 v) 122 45 true).run Try.prog w = .ok (.tuple #[v, .bool true]) w := by kernel_rfl
theorem as_WordPart_ParamExp_DblQuoted (v : Value) (w : World) : (Instr.typeAssert (.iface 35 v) 122 45 true).run Try.prog w = .ok (.tuple #[.pointer none, .bool false]) w := by kernel_rfl
theorem as_WordPart_CmdSubst_DblQuoted (v : Value) (w : World) : (Instr.typeAssert (.iface 136 v) 122 45 true).run Try.prog w = .ok (.tuple #[.pointer none, .bool false]) w := by kernel_rfl
theorem as_WordPart_nil_DblQuoted (w : World) : (Instr.typeAssert .nilIface 122 45 true).run Try.prog w = .ok (.tuple #[.pointer none, .bool false]) w := by kernel_rfl
theorem as_WordPart_Lit_ParamExp (v : Value) (w : World) : (Instr.typeAssert (.iface 36 v) 122 35 true).run Try.prog w = .ok (.tuple #[.pointer none, .bool false]) w := by kernel_rfl
theorem as_WordPart_DblQuoted_ParamExp (v : Value) (w : World) : (Instr.typeAssert (.iface 45 v) 122 35 true).run Try.prog w = .ok (.tuple #[.pointer none, .bool false]) w := by kernel_rfl
theorem as_WordPart_ParamExp_ParamExp (v : Value) (w : World) : (Instr.typeAssert (.iface 35 v) 122 35 true).run Try.prog w = .ok (.tuple #[v, .bool true]) w := by kernel_rfl
theorem as_WordPart_CmdSubst_ParamExp (v : Value) (w : World) : (Instr.typeAssert (.iface 136 v) 122 35 true).run Try.prog w = .ok (.tuple #[.pointer none, .bool false]) w := by kernel_rfl
theorem as_WordPart_nil_ParamExp (w : World) : (Instr.typeAssert .nilIface 122 35 true).run Try.prog w = .ok (.tuple #[.pointer none, .bool false]) w := by kernel_rfl
theorem as_WordPart_Lit_CmdSubst (v : Value) (w : World) : (Instr.typeAssert (.iface 36 v) 122 136 true).run Try.prog w = .ok (.tuple #[.pointer none, .bool false]) w := by kernel_rfl
theorem as_WordPart_DblQuoted_CmdSubst (v : Value) (w : World) : (Instr.typeAssert (.iface 45 v) 122 136 true).run Try.prog w = .ok (.tuple #[.pointer none, .bool false]) w := by kernel_rfl
theorem as_WordPart_ParamExp_CmdSubst (v : Value) (w : World) : (Instr.typeAssert (.iface 35 v) 122 136 true).run Try.prog w = .ok (.tuple #[.pointer none, .bool false]) w := by kernel_rfl
theorem as_WordPart_CmdSubst_CmdSubst (v : Value) (w : World) : (Instr.typeAssert (.iface 136 v) 122 136 true).run Try.prog w = .ok (.tuple #[v, .bool true]) w := by kernel_rfl
theorem as_WordPart_nil_CmdSubst (w : World) : (Instr.typeAssert .nilIface 122 136 true).run Try.prog w = .ok (.tuple #[.pointer none, .bool false]) w := by kernel_rfl
theorem as_Command_Subshell_Subshell (v : Value) (w : World) : (Instr.typeAssert (.iface 105 v) 101 105 true).run Try.prog w = .ok (.tuple #[v, .bool true]) w := by kernel_rfl
theorem as_Command_CallExpr_Subshell (v : Value) (w : World) : (Instr.typeAssert (.iface 94 v) 101 105 true).run Try.prog w = .ok (.tuple #[.pointer none, .bool false]) w := by kernel_rfl
theorem as_Command_nil_Subshell (w : World) : (Instr.typeAssert .nilIface 101 105 true).run Try.prog w = .ok (.tuple #[.pointer none, .bool false]) w := by kernel_rfl
theorem as_Command_Subshell_CallExpr (v : Value) (w : World) : (Instr.typeAssert (.iface 105 v) 101 94 true).run Try.prog w = .ok (.tuple #[.pointer none, .bool false]) w := by kernel_rfl
theorem as_Command_CallExpr_CallExpr (v : Value) (w : World) : (Instr.typeAssert (.iface 94 v) 101 94 true).run Try.prog w = .ok (.tuple #[v, .bool true]) w := by kernel_rfl
theorem as_Command_nil_CallExpr (w : World) : (Instr.typeAssert .nilIface 101 94 true).run Try.prog w = .ok (.tuple #[.pointer none, .bool false]) w := by kernel_rfl
theorem eq_BinaryArithm (a : Addr) (w : World) : (binOp .eql 79 (.pointer (some a)) (.pointer (some a))).run Try.prog w = .ok (.bool true) w := by
  obtain ⟨j, hj⟩ := Option.isSome_iff_exists.1 (show (Try.prog.info? 146).isSome = true by kernel_rfl)
  exact run_eql_ptr_same w a Try.underlying79 hj
theorem ne_BinaryArithm (a : Addr) (w : World) : (binOp .neq 79 (.pointer (some a)) (.pointer (some a))).run Try.prog w = .ok (.bool false) w := by
  obtain ⟨j, hj⟩ := Option.isSome_iff_exists.1 (show (Try.prog.info? 146).isSome = true by kernel_rfl)
  exact Lib.run_neq_ptr_same w a Try.underlying79 hj
theorem eq_BinaryTest (a : Addr) (w : World) : (binOp .eql 60 (.pointer (some a)) (.pointer (some a))).run Try.prog w = .ok (.bool true) w := by
  obtain ⟨j, hj⟩ := Option.isSome_iff_exists.1 (show (Try.prog.info? 77).isSome = true by kernel_rfl)
  exact run_eql_ptr_same w a Try.underlying60 hj
theorem ne_BinaryTest (a : Addr) (w : World) : (binOp .neq 60 (.pointer (some a)) (.pointer (some a))).run Try.prog w = .ok (.bool false) w := by
  obtain ⟨j, hj⟩ := Option.isSome_iff_exists.1 (show (Try.prog.info? 77).isSome = true by kernel_rfl)
  exact Lib.run_neq_ptr_same w a Try.underlying60 hj
theorem eq_CallExpr (a : Addr) (w : World) : (binOp .eql 94 (.pointer (some a)) (.pointer (some a))).run Try.prog w = .ok (.bool true) w := by
  obtain ⟨j, hj⟩ := Option.isSome_iff_exists.1 (show (Try.prog.info? 98).isSome = true by kernel_rfl)
  exact run_eql_ptr_same w a Try.underlying94 hj
theorem ne_CallExpr (a : Addr) (w : World) : (binOp .neq 94 (.pointer (some a)) (.pointer (some a))).run Try.prog w = .ok (.bool false) w := by
  obtain ⟨j, hj⟩ := Option.isSome_iff_exists.1 (show (Try.prog.info? 98).isSome = true by kernel_rfl)
  exact Lib.run_neq_ptr_same w a Try.underlying94 hj
theorem eq_CmdSubst (a : Addr) (w : World) : (binOp .eql 136 (.pointer (some a)) (.pointer (some a))).run Try.prog w = .ok (.bool true) w := by
  obtain ⟨j, hj⟩ := Option.isSome_iff_exists.1 (show (Try.prog.info? 138).isSome = true by kernel_rfl)
  exact run_eql_ptr_same w a Try.underlying136 hj
theorem ne_CmdSubst (a : Addr) (w : World) : (binOp .neq 136 (.pointer (some a)) (.pointer (some a))).run Try.prog w = .ok (.bool false) w := by
  obtain ⟨j, hj⟩ := Option.isSome_iff_exists.1 (show (Try.prog.info? 138).isSome = true by kernel_rfl)
  exact Lib.run_neq_ptr_same w a Try.underlying136 hj
theorem eq_DblQuoted (a : Addr) (w : World) : (binOp .eql 45 (.pointer (some a)) (.pointer (some a))).run Try.prog w = .ok (.bool true) w := by
  obtain ⟨j, hj⟩ := Option.isSome_iff_exists.1 (show (Try.prog.info? 126).isSome = true by kernel_rfl)
  exact run_eql_ptr_same w a Try.underlying45 hj
theorem ne_DblQuoted (a : Addr) (w : World) : (binOp .neq 45 (.pointer (some a)) (.pointer (some a))).run Try.prog w = .ok (.bool false) w := by
  obtain ⟨j, hj⟩ := Option.isSome_iff_exists.1 (show (Try.prog.info? 126).isSome = true by kernel_rfl)
  exact Lib.run_neq_ptr_same w a Try.underlying45 hj
theorem eq_Lit (a : Addr) (w : World) : (binOp .eql 36 (.pointer (some a)) (.pointer (some a))).run Try.prog w = .ok (.bool true) w := by
  obtain ⟨j, hj⟩ := Option.isSome_iff_exists.1 (show (Try.prog.info? 124).isSome = true by kernel_rfl)
  exact run_eql_ptr_same w a Try.underlying36 hj
theorem ne_Lit (a : Addr) (w : World) : (binOp .neq 36 (.pointer (some a)) (.pointer (some a))).run Try.prog w = .ok (.bool false) w := by
  obtain ⟨j, hj⟩ := Option.isSome_iff_exists.1 (show (Try.prog.info? 124).isSome = true by kernel_rfl)
  exact Lib.run_neq_ptr_same w a Try.underlying36 hj
theorem eq_ParamExp (a : Addr) (w : World) : (binOp .eql 35 (.pointer (some a)) (.pointer (some a))).run Try.prog w = .ok (.bool true) w := by
  obtain ⟨j, hj⟩ := Option.isSome_iff_exists.1 (show (Try.prog.info? 135).isSome = true by kernel_rfl)
  exact run_eql_ptr_same w a Try.underlying35 hj
theorem ne_ParamExp (a : Addr) (w : World) : (binOp .neq 35 (.pointer (some a)) (.pointer (some a))).run Try.prog w = .ok (.bool false) w := by
  obtain ⟨j, hj⟩ := Option.isSome_iff_exists.1 (show (Try.prog.info? 135).isSome = true by kernel_rfl)
  exact Lib.run_neq_ptr_same w a Try.underlying35 hj
theorem eq_ParenArithm (a : Addr) (w : World) : (binOp .eql 78 (.pointer (some a)) (.pointer (some a))).run Try.prog w = .ok (.bool true) w := by
  obtain ⟨j, hj⟩ := Option.isSome_iff_exists.1 (show (Try.prog.info? 86).isSome = true by kernel_rfl)
  exact run_eql_ptr_same w a Try.underlying78 hj
theorem ne_ParenArithm (a : Addr) (w : World) : (binOp .neq 78 (.pointer (some a)) (.pointer (some a))).run Try.prog w = .ok (.bool false) w := by
  obtain ⟨j, hj⟩ := Option.isSome_iff_exists.1 (show (Try.prog.info? 86).isSome = true by kernel_rfl)
  exact Lib.run_neq_ptr_same w a Try.underlying78 hj
theorem eq_ParenTest (a : Addr) (w : World) : (binOp .eql 66 (.pointer (some a)) (.pointer (some a))).run Try.prog w = .ok (.bool true) w := by
  obtain ⟨j, hj⟩ := Option.isSome_iff_exists.1 (show (Try.prog.info? 71).isSome = true by kernel_rfl)
  exact run_eql_ptr_same w a Try.underlying66 hj
theorem ne_ParenTest (a : Addr) (w : World) : (binOp .neq 66 (.pointer (some a)) (.pointer (some a))).run Try.prog w = .ok (.bool false) w := by
  obtain ⟨j, hj⟩ := Option.isSome_iff_exists.1 (show (Try.prog.info? 71).isSome = true by kernel_rfl)
  exact Lib.run_neq_ptr_same w a Try.underlying66 hj
theorem eq_Subshell (a : Addr) (w : World) : (binOp .eql 105 (.pointer (some a)) (.pointer (some a))).run Try.prog w = .ok (.bool true) w := by
  obtain ⟨j, hj⟩ := Option.isSome_iff_exists.1 (show (Try.prog.info? 107).isSome = true by kernel_rfl)
  exact run_eql_ptr_same w a Try.underlying105 hj
theorem ne_Subshell (a : Addr) (w : World) : (binOp .neq 105 (.pointer (some a)) (.pointer (some a))).run Try.prog w = .ok (.bool false) w := by
  obtain ⟨j, hj⟩ := Option.isSome_iff_exists.1 (show (Try.prog.info? 107).isSome = true by kernel_rfl)
  exact Lib.run_neq_ptr_same w a Try.underlying105 hj
theorem eq_UnaryArithm (a : Addr) (w : World) : (binOp .eql 80 (.pointer (some a)) (.pointer (some a))).run Try.prog w = .ok (.bool true) w := by
  obtain ⟨j, hj⟩ := Option.isSome_iff_exists.1 (show (Try.prog.info? 149).isSome = true by kernel_rfl)
  exact run_eql_ptr_same w a Try.underlying80 hj
theorem ne_UnaryArithm (a : Addr) (w : World) : (binOp .neq 80 (.pointer (some a)) (.pointer (some a))).run Try.prog w = .ok (.bool false) w := by
  obtain ⟨j, hj⟩ := Option.isSome_iff_exists.1 (show (Try.prog.info? 149).isSome = true by kernel_rfl)
  exact Lib.run_neq_ptr_same w a Try.underlying80 hj
theorem eq_UnaryTest (a : Addr) (w : World) : (binOp .eql 59 (.pointer (some a)) (.pointer (some a))).run Try.prog w = .ok (.bool true) w := by
  obtain ⟨j, hj⟩ := Option.isSome_iff_exists.1 (show (Try.prog.info? 74).isSome = true by kernel_rfl)
  exact run_eql_ptr_same w a Try.underlying59 hj
theorem ne_UnaryTest (a : Addr) (w : World) : (binOp .neq 59 (.pointer (some a)) (.pointer (some a))).run Try.prog w = .ok (.bool false) w := by
  obtain ⟨j, hj⟩ := Option.isSome_iff_exists.1 (show (Try.prog.info? 74).isSome = true by kernel_rfl)
  exact Lib.run_neq_ptr_same w a Try.underlying59 hj
theorem eq_Word (a : Addr) (w : World) : (binOp .eql 34 (.pointer (some a)) (.pointer (some a))).run Try.prog w = .ok (.bool true) w := by
  obtain ⟨j, hj⟩ := Option.isSome_iff_exists.1 (show (Try.prog.info? 55).isSome = true by kernel_rfl)
  exact run_eql_ptr_same w a Try.underlying34 hj
theorem ne_Word (a : Addr) (w : World) : (binOp .neq 34 (.pointer (some a)) (.pointer (some a))).run Try.prog w = .ok (.bool false) w := by
  obtain ⟨j, hj⟩ := Option.isSome_iff_exists.1 (show (Try.prog.info? 55).isSome = true by kernel_rfl)
  exact Lib.run_neq_ptr_same w a Try.underlying34 hj
theorem eq_Stmt (a : Addr) (w : World) : (binOp .eql 93 (.pointer (some a)) (.pointer (some a))).run Try.prog w = .ok (.bool true) w := by
  obtain ⟨j, hj⟩ := Option.isSome_iff_exists.1 (show (Try.prog.info? 104).isSome = true by kernel_rfl)
  exact run_eql_ptr_same w a Try.underlying93 hj
theorem ne_Stmt (a : Addr) (w : World) : (binOp .neq 93 (.pointer (some a)) (.pointer (some a))).run Try.prog w = .ok (.bool false) w := by
  obtain ⟨j, hj⟩ := Option.isSome_iff_exists.1 (show (Try.prog.info? 104).isSome = true by kernel_rfl)
  exact Lib.run_neq_ptr_same w a Try.underlying93 hj
theorem eqi_TestExpr_Word (a : Addr) (w : World) : (binOp .eql 49 (.iface 34 (.pointer (some a))) (.iface 34 (.pointer (some a)))).run Try.prog w = .ok (.bool true) w := by
  obtain ⟨j, hj⟩ := Option.isSome_iff_exists.1 (show (Try.prog.info? 55).isSome = true by kernel_rfl)
  obtain ⟨i, hi⟩ := Option.isSome_iff_exists.1 (show (Try.prog.info? 34).isSome = true by kernel_rfl)
  have hc : i.comparable = true := by
    have h : (Try.prog.info? 34).map (·.comparable) = some true := by kernel_rfl
    rw [hi] at h
    simpa using h
  exact run_eql_iface_ptr_same w a Try.underlying49 Try.underlying34 hi hc hj
theorem eqi_TestExpr_UnaryTest (a : Addr) (w : World) : (binOp .eql 49 (.iface 59 (.pointer (some a))) (.iface 59 (.pointer (some a)))).run Try.prog w = .ok (.bool true) w := by
  obtain ⟨j, hj⟩ := Option.isSome_iff_exists.1 (show (Try.prog.info? 74).isSome = true by kernel_rfl)
  obtain ⟨i, hi⟩ := Option.isSome_iff_exists.1 (show (Try.prog.info? 59).isSome = true by kernel_rfl)
  have hc : i.comparable = true := by
    have h : (Try.prog.info? 59).map (·.comparable) = some true := by kernel_rfl
    rw [hi] at h
    simpa using h
  exact run_eql_iface_ptr_same w a Try.underlying49 Try.underlying59 hi hc hj
theorem eqi_TestExpr_BinaryTest (a : Addr) (w : World) : (binOp .eql 49 (.iface 60 (.pointer (some a))) (.iface 60 (.pointer (some a)))).run Try.prog w = .ok (.bool true) w := by
  obtain ⟨j, hj⟩ := Option.isSome_iff_exists.1 (show (Try.prog.info? 77).isSome = true by kernel_rfl)
  obtain ⟨i, hi⟩ := Option.isSome_iff_exists.1 (show (Try.prog.info? 60).isSome = true by kernel_rfl)
  have hc : i.comparable = true := by
    have h : (Try.prog.info? 60).map (·.comparable) = some true := by kernel_rfl
    rw [hi] at h
    simpa using h
  exact run_eql_iface_ptr_same w a Try.underlying49 Try.underlying60 hi hc hj
theorem eqi_TestExpr_ParenTest (a : Addr) (w : World) : (binOp .eql 49 (.iface 66 (.pointer (some a))) (.iface 66 (.pointer (some a)))).run Try.prog w = .ok (.bool true) w := by
  obtain ⟨j, hj⟩ := Option.isSome_iff_exists.1 (show (Try.prog.info? 71).isSome = true by kernel_rfl)
  obtain ⟨i, hi⟩ := Option.isSome_iff_exists.1 (show (Try.prog.info? 66).isSome = true by kernel_rfl)
  have hc : i.comparable = true := by
    have h : (Try.prog.info? 66).map (·.comparable) = some true := by kernel_rfl
    rw [hi] at h
    simpa using h
  exact run_eql_iface_ptr_same w a Try.underlying49 Try.underlying66 hi hc hj
theorem eqi_ArithmExpr_Word (a : Addr) (w : World) : (binOp .eql 40 (.iface 34 (.pointer (some a))) (.iface 34 (.pointer (some a)))).run Try.prog w = .ok (.bool true) w := by
  obtain ⟨j, hj⟩ := Option.isSome_iff_exists.1 (show (Try.prog.info? 55).isSome = true by kernel_rfl)
  obtain ⟨i, hi⟩ := Option.isSome_iff_exists.1 (show (Try.prog.info? 34).isSome = true by kernel_rfl)
  have hc : i.comparable = true := by
    have h : (Try.prog.info? 34).map (·.comparable) = some true := by kernel_rfl
    rw [hi] at h
    simpa using h
  exact run_eql_iface_ptr_same w a Try.underlying40 Try.underlying34 hi hc hj
theorem eqi_ArithmExpr_UnaryArithm (a : Addr) (w : World) : (binOp .eql 40 (.iface 80 (.pointer (some a))) (.iface 80 (.pointer (some a)))).run Try.prog w = .ok (.bool true) w := by
  obtain ⟨j, hj⟩ := Option.isSome_iff_exists.1 (show (Try.prog.info? 149).isSome = true by kernel_rfl)
  obtain ⟨i, hi⟩ := Option.isSome_iff_exists.1 (show (Try.prog.info? 80).isSome = true by kernel_rfl)
  have hc : i.comparable = true := by
    have h : (Try.prog.info? 80).map (·.comparable) = some true := by kernel_rfl
    rw [hi] at h
    simpa using h
  exact run_eql_iface_ptr_same w a Try.underlying40 Try.underlying80 hi hc hj
theorem eqi_ArithmExpr_BinaryArithm (a : Addr) (w : World) : (binOp .eql 40 (.iface 79 (.pointer (some a))) (.iface 79 (.pointer (some a)))).run Try.prog w = .ok (.bool true) w := by
  obtain ⟨j, hj⟩ := Option.isSome_iff_exists.1 (show (Try.prog.info? 146).isSome = true by kernel_rfl)
  obtain ⟨i, hi⟩ := Option.isSome_iff_exists.1 (show (Try.prog.info? 79).isSome = true by kernel_rfl)
  have hc : i.comparable = true := by
    have h : (Try.prog.info? 79).map (·.comparable) = some true := by kernel_rfl
    rw [hi] at h
    simpa using h
  exact run_eql_iface_ptr_same w a Try.underlying40 Try.underlying79 hi hc hj
theorem eqi_ArithmExpr_ParenArithm (a : Addr) (w : World) : (binOp .eql 40 (.iface 78 (.pointer (some a))) (.iface 78 (.pointer (some a)))).run Try.prog w = .ok (.bool true) w := by
  obtain ⟨j, hj⟩ := Option.isSome_iff_exists.1 (show (Try.prog.info? 86).isSome = true by kernel_rfl)
  obtain ⟨i, hi⟩ := Option.isSome_iff_exists.1 (show (Try.prog.info? 78).isSome = true by kernel_rfl)
  have hc : i.comparable = true := by
    have h : (Try.prog.info? 78).map (·.comparable) = some true := by kernel_rfl
    rw [hi] at h
    simpa using h
  exact run_eql_iface_ptr_same w a Try.underlying40 Try.underlying78 hi hc hj
theorem eqi_WordPart_Lit (a : Addr) (w : World) : (binOp .eql 122 (.iface 36 (.pointer (some a))) (.iface 36 (.pointer (some a)))).run Try.prog w = .ok (.bool true) w := by
  obtain ⟨j, hj⟩ := Option.isSome_iff_exists.1 (show (Try.prog.info? 124).isSome = true by kernel_rfl)
  obtain ⟨i, hi⟩ := Option.isSome_iff_exists.1 (show (Try.prog.info? 36).isSome = true by kernel_rfl)
  have hc : i.comparable = true := by
    have h : (Try.prog.info? 36).map (·.comparable) = some true := by kernel_rfl
    rw [hi] at h
    simpa using h
  exact run_eql_iface_ptr_same w a Try.underlying122 Try.underlying36 hi hc hj
theorem eqi_WordPart_DblQuoted (a : Addr) (w : World) : (binOp .eql 122 (.iface 45 (.pointer (some a))) (.iface 45 (.pointer (some a)))).run Try.prog w = .ok (.bool true) w := by
  obtain ⟨j, hj⟩ := Option.isSome_iff_exists.1 (show (Try.prog.info? 126).isSome = true by kernel_rfl)
  obtain ⟨i, hi⟩ := Option.isSome_iff_exists.1 (show (Try.prog.info? 45).isSome = true by kernel_rfl)
  have hc : i.comparable = true := by
    have h : (Try.prog.info? 45).map (·.comparable) = some true := by kernel_rfl
    rw [hi] at h
    simpa using h
  exact run_eql_iface_ptr_same w a Try.underlying122 Try.underlying45 hi hc hj
theorem eqi_WordPart_ParamExp (a : Addr) (w : World) : (binOp .eql 122 (.iface 35 (.pointer (some a))) (.iface 35 (.pointer (some a)))).run Try.prog w = .ok (.bool true) w := by
  obtain ⟨j, hj⟩ := Option.isSome_iff_exists.1 (show (Try.prog.info? 135).isSome = true by kernel_rfl)
  obtain ⟨i, hi⟩ := Option.isSome_iff_exists.1 (show (Try.prog.info? 35).isSome = true by kernel_rfl)
  have hc : i.comparable = true := by
    have h : (Try.prog.info? 35).map (·.comparable) = some true := by kernel_rfl
    rw [hi] at h
    simpa using h
  exact run_eql_iface_ptr_same w a Try.underlying122 Try.underlying35 hi hc hj
theorem eqi_WordPart_CmdSubst (a : Addr) (w : World) : (binOp .eql 122 (.iface 136 (.pointer (some a))) (.iface 136 (.pointer (some a)))).run Try.prog w = .ok (.bool true) w := by
  obtain ⟨j, hj⟩ := Option.isSome_iff_exists.1 (show (Try.prog.info? 138).isSome = true by kernel_rfl)
  obtain ⟨i, hi⟩ := Option.isSome_iff_exists.1 (show (Try.prog.info? 136).isSome = true by kernel_rfl)
  have hc : i.comparable = true := by
    have h : (Try.prog.info? 136).map (·.comparable) = some true := by kernel_rfl
    rw [hi] at h
    simpa using h
  exact run_eql_iface_ptr_same w a Try.underlying122 Try.underlying136 hi hc hj
theorem eqi_Command_Subshell (a : Addr) (w : World) : (binOp .eql 101 (.iface 105 (.pointer (some a))) (.iface 105 (.pointer (some a)))).run Try.prog w = .ok (.bool true) w := by
  obtain ⟨j, hj⟩ := Option.isSome_iff_exists.1 (show (Try.prog.info? 107).isSome = true by kernel_rfl)
  obtain ⟨i, hi⟩ := Option.isSome_iff_exists.1 (show (Try.prog.info? 105).isSome = true by kernel_rfl)
  have hc : i.comparable = true := by
    have h : (Try.prog.info? 105).map (·.comparable) = some true := by kernel_rfl
    rw [hi] at h
    simpa using h
  exact run_eql_iface_ptr_same w a Try.underlying101 Try.underlying105 hi hc hj
theorem eqi_Command_CallExpr (a : Addr) (w : World) : (binOp .eql 101 (.iface 94 (.pointer (some a))) (.iface 94 (.pointer (some a)))).run Try.prog w = .ok (.bool true) w := by
  obtain ⟨j, hj⟩ := Option.isSome_iff_exists.1 (show (Try.prog.info? 98).isSome = true by kernel_rfl)
  obtain ⟨i, hi⟩ := Option.isSome_iff_exists.1 (show (Try.prog.info? 94).isSome = true by kernel_rfl)
  have hc : i.comparable = true := by
    have h : (Try.prog.info? 94).map (·.comparable) = some true := by kernel_rfl
    rw [hi] at h
    simpa using h
  exact run_eql_iface_ptr_same w a Try.underlying101 Try.underlying94 hi hc hj
end Go.Proofs.Ytoankohalfnemaa
