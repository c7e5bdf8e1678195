/- Closed facts: what a type assertion with two results answers. Conditions: none. -/
import Derived.Test.YtgeaokgcmhkoaaaChecked
import Derived.WalkKit
import Derived.LaidEqlPtr
import Derived.Lib.Builder
namespace Go.Proofs.Ytgeaokgcmhkoaaa
open Go.RowKit
theorem as_TestExpr_Word_Word (v : Value) (w : World) : (Instr.typeAssert (.iface 42 v) 117 42 true).run Try.prog w = .ok (.tuple #[v, .bool true]) w := by kernel_rfl
theorem as_TestExpr_UnaryTest_Word (v : Value) (w : World) : (Instr.typeAssert (.iface 128 v) 117 42 true).run Try.prog w = .ok (.tuple #[.pointer none, .bool false]) w := by kernel_rfl
theorem as_TestExpr_BinaryTest_Word (v : Value) (w : World) : (Instr.typeAssert (.iface 124 v) 117 42 true).run Try.prog w = .ok (.tuple #[.pointer none, .bool false]) w := by kernel_rfl
theorem as_TestExpr_ParenTest_Word (v : Value) (w : World) : (Instr.typeAssert (.iface 121 v) 117 42 true).run Try.prog w = .ok (.tuple #[.pointer none, .bool false]) w := by kernel_rfl
theorem as_TestExpr_nil_Word (w : World) : (Instr.typeAssert .nilIface 117 42 true).run Try.prog w = .ok (.tuple #[.pointer none, .bool false]) w := by kernel_rfl
theorem as_TestExpr_Word_UnaryTest (v : Value) (w : World) : (Instr.typeAssert (.iface 42 v) 117 128 true).run Try.prog w = .ok (.tuple #[.pointer none, .bool false]) w := by kernel_rfl
theorem as_TestExpr_UnaryTest_UnaryTest (v : Value) (w : World) : (Instr.typeAssert (.iface 128 v) 117 128 true).run Try.prog w = .ok (.tuple #[v, .bool true]) w := by kernel_rfl
theorem as_TestExpr_BinaryTest_UnaryTest (v : Value) (w : World) : (Instr.typeAssert (.iface 124 v) 117 128 true).run Try.prog w = .ok (.tuple #[.pointer none, .bool false]) w := by kernel_rfl
theorem as_TestExpr_ParenTest_UnaryTest (v : Value) (w : World) : (Instr.typeAssert (.iface 121 v) 117 128 true).run Try.prog w = .ok (.tuple #[.pointer none, .bool false]) w := by kernel_rfl
theorem as_TestExpr_nil_UnaryTest (w : World) : (Instr.typeAssert .nilIface 117 128 true).run Try.prog w = .ok (.tuple #[.pointer none, .bool false]) w := by kernel_rfl
theorem as_TestExpr_Word_BinaryTest (v : Value) (w : World) : (Instr.typeAssert (.iface 42 v) 117 124 true).run Try.prog w = .ok (.tuple #[.pointer none, .bool false]) w := by kernel_rfl
theorem as_TestExpr_UnaryTest_BinaryTest (v : Value) (w : World) : (Instr.typeAssert (.iface 128 v) 117 124 true).run Try.prog w = .ok (.tuple #[.pointer none, .bool false]) w := by kernel_rfl
theorem as_TestExpr_BinaryTest_BinaryTest (v : Value) (w : World) : (Instr.typeAssert (.iface 124 v) 117 124 true).run Try.prog w = .ok (.tuple #[v, .bool true]) w := by kernel_rfl
theorem as_TestExpr_ParenTest_BinaryTest (v : Value) (w : World) : (Instr.typeAssert (.iface 121 v) 117 124 true).run Try.prog w = .ok (.tuple #[.pointer none, .bool false]) w := by kernel_rfl
theorem as_TestExpr_nil_BinaryTest (w : World) : (Instr.typeAssert .nilIface 117 124 true).run Try.prog w = .ok (.tuple #[.pointer none, .bool false]) w := by kernel_rfl
theorem as_TestExpr_Word_ParenTest (v : Value) (w : World) : (Instr.typeAssert (.iface 42 v) 117 121 true).run Try.prog w = .ok (.tuple #[.pointer none, .bool false]) w := by kernel_rfl
theorem as_TestExpr_UnaryTest_ParenTest (v : Value) (w : World) : (Instr.typeAssert (.iface 128 v) 117 121 true).run Try.prog w = .ok (.tuple #[.pointer none, .bool false]) w := by kernel_rfl
theorem as_TestExpr_BinaryTest_ParenTest (v : Value) (w : World) : (Instr.typeAssert (.iface 124 v) 117 121 true).run Try.prog w = .ok (.tuple #[.pointer none, .bool false]) w := by kernel_rfl
theorem as_TestExpr_ParenTest_ParenTest (v : Value) (w : World) : (Instr.typeAssert (.iface 121 v) 117 121 true).run Try.prog w = .ok (.tuple #[v, .bool true]) w := by kernel_rfl
theorem as_TestExpr_nil_ParenTest (w : World) : (Instr.typeAssert .nilIface 117 121 true).run Try.prog w = .ok (.tuple #[.pointer none, .bool false]) w := by kernel_rfl
theorem as_ArithmExpr_Word_Word (v : Value) (w : World) : (Instr.typeAssert (.iface 42 v) 34 42 true).run Try.prog w = .ok (.tuple #[v, .bool true]) w := by kernel_rfl
theorem as_ArithmExpr_UnaryArithm_Word (v : Value) (w : World) : (Instr.typeAssert (.iface 89 v) 34 42 true).run Try.prog w = .ok (.tuple #[.pointer none, .bool false]) w := by kernel_rfl
theorem as_ArithmExpr_BinaryArithm_Word (v : Value) (w : World) : (Instr.typeAssert (.iface 60 v) 34 42 true).run Try.prog w = .ok (.tuple #[.pointer none, .bool false]) w := by kernel_rfl
theorem as_ArithmExpr_ParenArithm_Word (v : Value) (w : World) : (Instr.typeAssert (.iface 48 v) 34 42 true).run Try.prog w = .ok (.tuple #[.pointer none, .bool false]) w := by kernel_rfl
theorem as_ArithmExpr_FlagsArithm_Word (v : Value) (w : World) : (Instr.typeAssert (.iface 93 v) 34 42 true).run Try.prog w = .ok (.tuple #[.pointer none, .bool false]) w := by kernel_rfl
theorem as_ArithmExpr_nil_Word (w : World) : (Instr.typeAssert .nilIface 34 42 true).run Try.prog w = .ok (.tuple #[.pointer none, .bool false]) w := by kernel_rfl
theorem as_ArithmExpr_Word_UnaryArithm (v : Value) (w : World) : (Instr.typeAssert (.iface 42 v) 34 89 true).run Try.prog w = .ok (.tuple #[.pointer none, .bool false]) w := by kernel_rfl
theorem as_ArithmExpr_UnaryArithm_UnaryArithm (v : Value) (w : World) : (Instr.typeAssert (.iface 89 v) 34 89 true).run Try.prog w = .ok (.tuple #[v, .bool true]) w := by kernel_rfl
theorem as_ArithmExpr_BinaryArithm_UnaryArithm (v : Value) (w : World) : (Instr.typeAssert (.iface 60 v) 34 89 true).run Try.prog w = .ok (.tuple #[.pointer none, .bool false]) w := by kernel_rfl
theorem as_ArithmExpr_ParenArithm_UnaryArithm (v : Value) (w : World) : (Instr.typeAssert (.iface 48 v) 34 89 true).run Try.prog w = .ok (.tuple #[.pointer none, .bool false]) w := by kernel_rfl
theorem as_ArithmExpr_FlagsArithm_UnaryArithm (v : Value) (w : World) : (Instr.typeAssert (.iface 93 v) 34 89 true).run Try.prog w = .ok (.tuple #[.pointer none, .bool false]) w := by kernel_rfl
theorem as_ArithmExpr_nil_UnaryArithm (w : World) : (Instr.typeAssert .nilIface 34 89 true).run Try.prog w = .ok (.tuple #[.pointer none, .bool false]) w := by kernel_rfl
theorem as_ArithmExpr_Word_BinaryArithm (v : Value) (w : World) : (Instr.typeAssert (.iface 42 v) 34 60 true).run Try.prog w = .ok (.tuple #[.pointer none, .bool false]) w := by kernel_rfl
theorem as_ArithmExpr_UnaryArithm_BinaryArithm (v : Value) (w : World) : (Instr.typeAssert (.iface 89 v) 34 60 true).run Try.prog w = .ok (.tuple #[.pointer none, .bool false]) w := by kernel_rfl
theorem as_ArithmExpr_BinaryArithm_BinaryArithm (v : Value) (w : World) : (Instr.typeAssert (.iface 60 v) 34 60 true).run Try.prog w = .ok (.tuple #[v, .bool true]) w := by kernel_rfl
theorem as_ArithmExpr_ParenArithm_BinaryArithm (v : Value) (w : World) : (Instr.typeAssert (.iface 48 v) 34 60 true).run Try.prog w = .ok (.tuple #[.pointer none, .bool false]) w := by kernel_rfl
theorem as_ArithmExpr_FlagsArithm_BinaryArithm (v : Value) (w : World) : (Instr.typeAssert (.iface 93 v) 34 60 true).run Try.prog w = .ok (.tuple #[.pointer none, .bool false]) w := by kernel_rfl
theorem as_ArithmExpr_nil_BinaryArithm (w : World) : (Instr.typeAssert .nilIface 34 60 true).run Try.prog w = .ok (.tuple #[.pointer none, .bool false]) w := by kernel_rfl
theorem as_ArithmExpr_Word_ParenArithm (v : Value) (w : World) : (Instr.typeAssert (.iface 42 v) 34 48 true).run Try.prog w = .ok (.tuple #[.pointer none, .bool false]) w := by kernel_rfl
theorem as_ArithmExpr_UnaryArithm_ParenArithm (v : Value) (w : World) : (Instr.typeAssert (.iface 89 v) 34 48 true).run Try.prog w = .ok (.tuple #[.pointer none, .bool false]) w := by kernel_rfl
theorem as_ArithmExpr_BinaryArithm_ParenArithm (v : Value) (w : World) : (Instr.typeAssert (.iface 60 v) 34 48 true).run Try.prog w = .ok (.tuple #[.pointer none, .bool false]) w := by kernel_rfl
theorem as_ArithmExpr_ParenArithm_ParenArithm (v : Value) (w : World) : (Instr.typeAssert (.iface 48 v) 34 48 true).run Try.prog w = .ok (.tuple #[v, .bool true]) w := by kernel_rfl
theorem as_ArithmExpr_FlagsArithm_ParenArithm (v : Value) (w : World) : (Instr.typeAssert (.iface 93 v) 34 48 true).run Try.prog w = .ok (.tuple #[.pointer none, .bool false]) w := by kernel_rfl
theorem as_ArithmExpr_nil_ParenArithm (w : World) : (Instr.typeAssert .nilIface 34 48 true).run Try.prog w = .ok (.tuple #[.pointer none, .bool false]) w := by kernel_rfl
theorem as_ArithmExpr_Word_FlagsArithm (v : Value) (w : World) : (Instr.typeAssert (.iface 42 v) 34 93 true).run Try.prog w = .ok (.tuple #[.pointer none, .bool false]) w := by kernel_rfl
theorem as_ArithmExpr_UnaryArithm_FlagsArithm (v : Value) (w : World) : (Instr.typeAssert (.iface 89 v) 34 93 true).run Try.prog w = .ok (.tuple #[.pointer none, .bool false]) w := by kernel_rfl
theorem as_ArithmExpr_BinaryArithm_FlagsArithm (v : Value) (w : World) : (Instr.typeAssert (.iface 60 v) 34 93 true).run Try.prog w = .ok (.tuple #[.pointer none, .bool false]) w := by kernel_rfl
theorem as_ArithmExpr_ParenArithm_FlagsArithm (v : Value) (w : World) : (Instr.typeAssert (.iface 48 v) 34 93 true).run Try.prog w = .ok (.tuple #[.pointer none, .bool false]) w := by kernel_rfl
theorem as_ArithmExpr_FlagsArithm_FlagsArithm (v : Value) (w : World) : (Instr.typeAssert (.iface 93 v) 34 93 true).run Try.prog w = .ok (.tuple #[v, .bool true]) w := by kernel_rfl
theorem as_ArithmExpr_nil_FlagsArithm (w : World) : (Instr.typeAssert .nilIface 34 93 true).run Try.prog w = .ok (.tuple #[.pointer none, .bool false]) w := by kernel_rfl
theorem as_WordPart_Lit_Lit (v : Value) (w : World) : (Instr.typeAssert (.iface 24 v) 32 24 true).run Try.prog w = .ok (.tuple #[v, .bool true]) w := by kernel_rfl
theorem as_WordPart_SglQuoted_Lit (v : Value) (w : World) : (Instr.typeAssert (.iface 153 v) 32 24 true).run Try.prog w = .ok (.tuple #[.pointer none, .bool false]) w := by kernel_rfl
theorem as_WordPart_DblQuoted_Lit (v : Value) (w : World) : (Instr.typeAssert (.iface 141 v) 32 24 true).run Try.prog w = .ok (.tuple #[.pointer none, .bool false]) w := by kernel_rfl
theorem as_WordPart_ParamExp_Lit (v : Value) (w : World) : (Instr.typeAssert (.iface 23 v) 32 24 true).run Try.prog w = .ok (.tuple #[.pointer none, .bool false]) w := by kernel_rfl
theorem as_WordPart_CmdSubst_Lit (v : Value) (w : World) : (Instr.typeAssert (.iface 106 v) 32 24 true).run Try.prog w = .ok (.tuple #[.pointer none, .bool false]) w := by kernel_rfl
theorem as_WordPart_nil_Lit (w : World) : (Instr.typeAssert .nilIface 32 24 true).run Try.prog w = .ok (.tuple #[.pointer none, .bool false]) w := by kernel_rfl
theorem as_WordPart_Lit_SglQuoted (v : Value) (w : World) : (Instr.typeAssert (.iface 24 v) 32 153 true).run Try.prog w = .ok (.tuple #[.pointer none, .bool false]) w := by kernel_rfl
theorem as_WordPart_SglQuoted_SglQuoted (v : Value) (w : World) : (Instr.typeAssert (.iface 153 v) 32 153 true).run Try.prog w = .ok (.tuple #[v, .bool true]) w := by kernel_rfl
theorem as_WordPart_DblQuoted_SglQuoted (v : Value) (w : World) : (Instr.typeAssert (.iface 141 v) 32 153 true).run Try.prog w = .ok (.tuple #[.pointer none, .bool false]) w := by kernel_rfl
theorem as_WordPart_ParamExp_SglQuoted (v : Value) (w : World) : (Instr.typeAssert (.iface 23 v) 32 153 true).run Try.prog w = .ok (.tuple #[.pointer none, .bool false]) w := by kernel_rfl
theorem as_WordPart_CmdSubst_SglQuoted (v : Value) (w : World) : (Instr.typeAssert (.iface 106 v) 32 153 true).run Try.prog w = .ok (.tuple #[.pointer none, .bool false]) w := by kernel_rfl
theorem as_WordPart_nil_SglQuoted (w : World) : (Instr.typeAssert .nilIface 32 153 true).run Try.prog w = .ok (.tuple #[.pointer none, .bool false]) w := by kernel_rfl
theorem as_WordPart_Lit_DblQuoted (v : Value) (w : World) : (Instr.typeAssert (.iface 24 v) 32 141 true).run Try.prog w = .ok (.tuple #[.pointer none, .bool false]) w := by kernel_rfl
theorem as_WordPart_SglQuoted_DblQuoted (v : Value) (w : World) : (Instr.typeAssert (.iface 153 v) 32 141 true).run Try.prog w = .ok (.tuple #[.pointer none, .bool false]) w := by kernel_rfl
theorem as_WordPart_DblQuoted_DblQuoted (v : Value) (w : World) : (Instr.typeAssert (.iface 141 v) 32 141 true).run Try.prog w = .ok (.tuple #[v, .bool true]) w := by kernel_rfl
theorem as_WordPart_ParamExp_DblQuoted (v : Value) (w : World) : (Instr.typeAssert (.iface 23 v) 32 141 true).run Try.prog w = .ok (.tuple #[.pointer none, .bool false]) w := by kernel_rfl
theorem as_WordPart_CmdSubst_DblQuoted (v : Value) (w : World) : (Instr.typeAssert (.iface 106 v) 32 141 true).run Try.prog w = .ok (.tuple #[.pointer none, .bool false]) w := by kernel_rfl
theorem as_WordPart_nil_DblQuoted (w : World) : (Instr.typeAssert .nilIface 32 141 true).run Try.prog w = .ok (.tuple #[.pointer none, .bool false]) w := by kernel_rfl
theorem as_WordPart_Lit_ParamExp (v : Value) (w : World) : (Instr.typeAssert (.iface 24 v) 32 23 true).run Try.prog w = .ok (.tuple #[.pointer none, .bool false]) w := by kernel_rfl
theorem as_WordPart_SglQuoted_ParamExp (v : Value) (w : World) : (Instr.typeAssert (.iface 153 v) 32 23 true).run Try.prog w = .ok (.tuple #[.pointer none, .bool false]) w := by kernel_rfl
theorem as_WordPart_DblQuoted_ParamExp (v : Value) (w : World) : (Instr.typeAssert (.iface 141 v) 32 23 true).run Try.prog w = .ok (.tuple #[.pointer none, .bool false]) w := by kernel_rfl
theorem as_WordPart_ParamExp_ParamExp (v : Value) (w : World) : (Instr.typeAssert (.iface 23 v) 32 23 true).run Try.prog w = .ok (.tuple #[v, .bool true]) w := by kernel_rfl
theorem as_WordPart_CmdSubst_ParamExp (v : Value) (w : World) : (Instr.typeAssert (.iface 106 v) 32 23 true).run Try.prog w = .ok (.tuple #[.pointer none, .bool false]) w := by kernel_rfl
theorem as_WordPart_nil_ParamExp (w : World) : (Instr.typeAssert .nilIface 32 23 true).run Try.prog w = .ok (.tuple #[.pointer none, .bool false]) w := by kernel_rfl
theorem as_WordPart_Lit_CmdSubst (v : Value) (w : World) : (Instr.typeAssert (.iface 24 v) 32 106 true).run Try.prog w = .ok (.tuple #[.pointer none, .bool false]) w := by kernel_rfl
theorem as_WordPart_SglQuoted_CmdSubst (v : Value) (w : World) : (Instr.typeAssert (.iface 153 v) 32 106 true).run Try.prog w = .ok (.tuple #[.pointer none, .bool false]) w := by kernel_rfl
theorem as_WordPart_DblQuoted_CmdSubst (v : Value) (w : World) : (Instr.typeAssert (.iface 141 v) 32 106 true).run Try.prog w = .ok (.tuple #[.pointer none, .bool false]) w := by kernel_rfl
theorem as_WordPart_ParamExp_CmdSubst (v : Value) (w : World) : (Instr.typeAssert (.iface 23 v) 32 106 true).run Try.prog w = .ok (.tuple #[.pointer none, .bool false]) w := by kernel_rfl
theorem as_WordPart_CmdSubst_CmdSubst (v : Value) (w : World) : (Instr.typeAssert (.iface 106 v) 32 106 true).run Try.prog w = .ok (.tuple #[v, .bool true]) w := by kernel_rfl
theorem as_WordPart_nil_CmdSubst (w : World) : (Instr.typeAssert .nilIface 32 106 true).run Try.prog w = .ok (.tuple #[.pointer none, .bool false]) w := by kernel_rfl
theorem as_Command_Subshell_Subshell (v : Value) (w : World) : (Instr.typeAssert (.iface 111 v) 136 111 true).run Try.prog w = .ok (.tuple #[v, .bool true]) w := by kernel_rfl
theorem as_Command_nil_Subshell (w : World) : (Instr.typeAssert .nilIface 136 111 true).run Try.prog w = .ok (.tuple #[.pointer none, .bool false]) w := by kernel_rfl
theorem eq_BinaryArithm (a : Addr) (w : World) : (binOp .eql 60 (.pointer (some a)) (.pointer (some a))).run Try.prog w = .ok (.bool true) w := by
  obtain ⟨j, hj⟩ := Option.isSome_iff_exists.1 (show (Try.prog.info? 63).isSome = true by kernel_rfl)
  exact run_eql_ptr_same w a Try.underlying60 hj
theorem ne_BinaryArithm (a : Addr) (w : World) : (binOp .neq 60 (.pointer (some a)) (.pointer (some a))).run Try.prog w = .ok (.bool false) w := by
  obtain ⟨j, hj⟩ := Option.isSome_iff_exists.1 (show (Try.prog.info? 63).isSome = true by kernel_rfl)
  exact Lib.run_neq_ptr_same w a Try.underlying60 hj
theorem eq_BinaryTest (a : Addr) (w : World) : (binOp .eql 124 (.pointer (some a)) (.pointer (some a))).run Try.prog w = .ok (.bool true) w := by
  obtain ⟨j, hj⟩ := Option.isSome_iff_exists.1 (show (Try.prog.info? 127).isSome = true by kernel_rfl)
  exact run_eql_ptr_same w a Try.underlying124 hj
theorem ne_BinaryTest (a : Addr) (w : World) : (binOp .neq 124 (.pointer (some a)) (.pointer (some a))).run Try.prog w = .ok (.bool false) w := by
  obtain ⟨j, hj⟩ := Option.isSome_iff_exists.1 (show (Try.prog.info? 127).isSome = true by kernel_rfl)
  exact Lib.run_neq_ptr_same w a Try.underlying124 hj
theorem eq_CmdSubst (a : Addr) (w : World) : (binOp .eql 106 (.pointer (some a)) (.pointer (some a))).run Try.prog w = .ok (.bool true) w := by
  obtain ⟨j, hj⟩ := Option.isSome_iff_exists.1 (show (Try.prog.info? 110).isSome = true by kernel_rfl)
  exact run_eql_ptr_same w a Try.underlying106 hj
theorem ne_CmdSubst (a : Addr) (w : World) : (binOp .neq 106 (.pointer (some a)) (.pointer (some a))).run Try.prog w = .ok (.bool false) w := by
  obtain ⟨j, hj⟩ := Option.isSome_iff_exists.1 (show (Try.prog.info? 110).isSome = true by kernel_rfl)
  exact Lib.run_neq_ptr_same w a Try.underlying106 hj
theorem eq_DblQuoted (a : Addr) (w : World) : (binOp .eql 141 (.pointer (some a)) (.pointer (some a))).run Try.prog w = .ok (.bool true) w := by
  obtain ⟨j, hj⟩ := Option.isSome_iff_exists.1 (show (Try.prog.info? 144).isSome = true by kernel_rfl)
  exact run_eql_ptr_same w a Try.underlying141 hj
theorem ne_DblQuoted (a : Addr) (w : World) : (binOp .neq 141 (.pointer (some a)) (.pointer (some a))).run Try.prog w = .ok (.bool false) w := by
  obtain ⟨j, hj⟩ := Option.isSome_iff_exists.1 (show (Try.prog.info? 144).isSome = true by kernel_rfl)
  exact Lib.run_neq_ptr_same w a Try.underlying141 hj
theorem eq_FlagsArithm (a : Addr) (w : World) : (binOp .eql 93 (.pointer (some a)) (.pointer (some a))).run Try.prog w = .ok (.bool true) w := by
  obtain ⟨j, hj⟩ := Option.isSome_iff_exists.1 (show (Try.prog.info? 95).isSome = true by kernel_rfl)
  exact run_eql_ptr_same w a Try.underlying93 hj
theorem ne_FlagsArithm (a : Addr) (w : World) : (binOp .neq 93 (.pointer (some a)) (.pointer (some a))).run Try.prog w = .ok (.bool false) w := by
  obtain ⟨j, hj⟩ := Option.isSome_iff_exists.1 (show (Try.prog.info? 95).isSome = true by kernel_rfl)
  exact Lib.run_neq_ptr_same w a Try.underlying93 hj
theorem eq_Lit (a : Addr) (w : World) : (binOp .eql 24 (.pointer (some a)) (.pointer (some a))).run Try.prog w = .ok (.bool true) w := by
  obtain ⟨j, hj⟩ := Option.isSome_iff_exists.1 (show (Try.prog.info? 29).isSome = true by kernel_rfl)
  exact run_eql_ptr_same w a Try.underlying24 hj
theorem ne_Lit (a : Addr) (w : World) : (binOp .neq 24 (.pointer (some a)) (.pointer (some a))).run Try.prog w = .ok (.bool false) w := by
  obtain ⟨j, hj⟩ := Option.isSome_iff_exists.1 (show (Try.prog.info? 29).isSome = true by kernel_rfl)
  exact Lib.run_neq_ptr_same w a Try.underlying24 hj
theorem eq_ParamExp (a : Addr) (w : World) : (binOp .eql 23 (.pointer (some a)) (.pointer (some a))).run Try.prog w = .ok (.bool true) w := by
  obtain ⟨j, hj⟩ := Option.isSome_iff_exists.1 (show (Try.prog.info? 41).isSome = true by kernel_rfl)
  exact run_eql_ptr_same w a Try.underlying23 hj
theorem ne_ParamExp (a : Addr) (w : World) : (binOp .neq 23 (.pointer (some a)) (.pointer (some a))).run Try.prog w = .ok (.bool false) w := by
  obtain ⟨j, hj⟩ := Option.isSome_iff_exists.1 (show (Try.prog.info? 41).isSome = true by kernel_rfl)
  exact Lib.run_neq_ptr_same w a Try.underlying23 hj
theorem eq_ParenArithm (a : Addr) (w : World) : (binOp .eql 48 (.pointer (some a)) (.pointer (some a))).run Try.prog w = .ok (.bool true) w := by
  obtain ⟨j, hj⟩ := Option.isSome_iff_exists.1 (show (Try.prog.info? 50).isSome = true by kernel_rfl)
  exact run_eql_ptr_same w a Try.underlying48 hj
theorem ne_ParenArithm (a : Addr) (w : World) : (binOp .neq 48 (.pointer (some a)) (.pointer (some a))).run Try.prog w = .ok (.bool false) w := by
  obtain ⟨j, hj⟩ := Option.isSome_iff_exists.1 (show (Try.prog.info? 50).isSome = true by kernel_rfl)
  exact Lib.run_neq_ptr_same w a Try.underlying48 hj
theorem eq_ParenTest (a : Addr) (w : World) : (binOp .eql 121 (.pointer (some a)) (.pointer (some a))).run Try.prog w = .ok (.bool true) w := by
  obtain ⟨j, hj⟩ := Option.isSome_iff_exists.1 (show (Try.prog.info? 123).isSome = true by kernel_rfl)
  exact run_eql_ptr_same w a Try.underlying121 hj
theorem ne_ParenTest (a : Addr) (w : World) : (binOp .neq 121 (.pointer (some a)) (.pointer (some a))).run Try.prog w = .ok (.bool false) w := by
  obtain ⟨j, hj⟩ := Option.isSome_iff_exists.1 (show (Try.prog.info? 123).isSome = true by kernel_rfl)
  exact Lib.run_neq_ptr_same w a Try.underlying121 hj
theorem eq_SglQuoted (a : Addr) (w : World) : (binOp .eql 153 (.pointer (some a)) (.pointer (some a))).run Try.prog w = .ok (.bool true) w := by
  obtain ⟨j, hj⟩ := Option.isSome_iff_exists.1 (show (Try.prog.info? 156).isSome = true by kernel_rfl)
  exact run_eql_ptr_same w a Try.underlying153 hj
theorem ne_SglQuoted (a : Addr) (w : World) : (binOp .neq 153 (.pointer (some a)) (.pointer (some a))).run Try.prog w = .ok (.bool false) w := by
  obtain ⟨j, hj⟩ := Option.isSome_iff_exists.1 (show (Try.prog.info? 156).isSome = true by kernel_rfl)
  exact Lib.run_neq_ptr_same w a Try.underlying153 hj
theorem eq_Subshell (a : Addr) (w : World) : (binOp .eql 111 (.pointer (some a)) (.pointer (some a))).run Try.prog w = .ok (.bool true) w := by
  obtain ⟨j, hj⟩ := Option.isSome_iff_exists.1 (show (Try.prog.info? 113).isSome = true by kernel_rfl)
  exact run_eql_ptr_same w a Try.underlying111 hj
theorem ne_Subshell (a : Addr) (w : World) : (binOp .neq 111 (.pointer (some a)) (.pointer (some a))).run Try.prog w = .ok (.bool false) w := by
  obtain ⟨j, hj⟩ := Option.isSome_iff_exists.1 (show (Try.prog.info? 113).isSome = true by kernel_rfl)
  exact Lib.run_neq_ptr_same w a Try.underlying111 hj
theorem eq_UnaryArithm (a : Addr) (w : World) : (binOp .eql 89 (.pointer (some a)) (.pointer (some a))).run Try.prog w = .ok (.bool true) w := by
  obtain ⟨j, hj⟩ := Option.isSome_iff_exists.1 (show (Try.prog.info? 92).isSome = true by kernel_rfl)
  exact run_eql_ptr_same w a Try.underlying89 hj
theorem ne_UnaryArithm (a : Addr) (w : World) : (binOp .neq 89 (.pointer (some a)) (.pointer (some a))).run Try.prog w = .ok (.bool false) w := by
  obtain ⟨j, hj⟩ := Option.isSome_iff_exists.1 (show (Try.prog.info? 92).isSome = true by kernel_rfl)
  exact Lib.run_neq_ptr_same w a Try.underlying89 hj
theorem eq_UnaryTest (a : Addr) (w : World) : (binOp .eql 128 (.pointer (some a)) (.pointer (some a))).run Try.prog w = .ok (.bool true) w := by
  obtain ⟨j, hj⟩ := Option.isSome_iff_exists.1 (show (Try.prog.info? 131).isSome = true by kernel_rfl)
  exact run_eql_ptr_same w a Try.underlying128 hj
theorem ne_UnaryTest (a : Addr) (w : World) : (binOp .neq 128 (.pointer (some a)) (.pointer (some a))).run Try.prog w = .ok (.bool false) w := by
  obtain ⟨j, hj⟩ := Option.isSome_iff_exists.1 (show (Try.prog.info? 131).isSome = true by kernel_rfl)
  exact Lib.run_neq_ptr_same w a Try.underlying128 hj
theorem eq_Word (a : Addr) (w : World) : (binOp .eql 42 (.pointer (some a)) (.pointer (some a))).run Try.prog w = .ok (.bool true) w := by
  obtain ⟨j, hj⟩ := Option.isSome_iff_exists.1 (show (Try.prog.info? 45).isSome = true by kernel_rfl)
  exact run_eql_ptr_same w a Try.underlying42 hj
theorem ne_Word (a : Addr) (w : World) : (binOp .neq 42 (.pointer (some a)) (.pointer (some a))).run Try.prog w = .ok (.bool false) w := by
  obtain ⟨j, hj⟩ := Option.isSome_iff_exists.1 (show (Try.prog.info? 45).isSome = true by kernel_rfl)
  exact Lib.run_neq_ptr_same w a Try.underlying42 hj
theorem eq_Stmt (a : Addr) (w : World) : (binOp .eql 134 (.pointer (some a)) (.pointer (some a))).run Try.prog w = .ok (.bool true) w := by
  obtain ⟨j, hj⟩ := Option.isSome_iff_exists.1 (show (Try.prog.info? 139).isSome = true by kernel_rfl)
  exact run_eql_ptr_same w a Try.underlying134 hj
theorem ne_Stmt (a : Addr) (w : World) : (binOp .neq 134 (.pointer (some a)) (.pointer (some a))).run Try.prog w = .ok (.bool false) w := by
  obtain ⟨j, hj⟩ := Option.isSome_iff_exists.1 (show (Try.prog.info? 139).isSome = true by kernel_rfl)
  exact Lib.run_neq_ptr_same w a Try.underlying134 hj
theorem eqi_TestExpr_Word (a : Addr) (w : World) : (binOp .eql 117 (.iface 42 (.pointer (some a))) (.iface 42 (.pointer (some a)))).run Try.prog w = .ok (.bool true) w := by
  obtain ⟨j, hj⟩ := Option.isSome_iff_exists.1 (show (Try.prog.info? 45).isSome = true by kernel_rfl)
  obtain ⟨i, hi⟩ := Option.isSome_iff_exists.1 (show (Try.prog.info? 42).isSome = true by kernel_rfl)
  have hc : i.comparable = true := by
    have h : (Try.prog.info? 42).map (·.comparable) = some true := by kernel_rfl
    rw [hi] at h
    simpa using h
  exact run_eql_iface_ptr_same w a Try.underlying117 Try.underlying42 hi hc hj
theorem eqi_TestExpr_UnaryTest (a : Addr) (w : World) : (binOp .eql 117 (.iface 128 (.pointer (some a))) (.iface 128 (.pointer (some a)))).run Try.prog w = .ok (.bool true) w := by
  obtain ⟨j, hj⟩ := Option.isSome_iff_exists.1 (show (Try.prog.info? 131).isSome = true by kernel_rfl)
  obtain ⟨i, hi⟩ := Option.isSome_iff_exists.1 (show (Try.prog.info? 128).isSome = true by kernel_rfl)
  have hc : i.comparable = true := by
    have h : (Try.prog.info? 128).map (·.comparable) = some true := by kernel_rfl
    rw [hi] at h
    simpa using h
  exact run_eql_iface_ptr_same w a Try.underlying117 Try.underlying128 hi hc hj
theorem eqi_TestExpr_BinaryTest (a : Addr) (w : World) : (binOp .eql 117 (.iface 124 (.pointer (some a))) (.iface 124 (.pointer (some a)))).run Try.prog w = .ok (.bool true) w := by
  obtain ⟨j, hj⟩ := Option.isSome_iff_exists.1 (show (Try.prog.info? 127).isSome = true by kernel_rfl)
  obtain ⟨i, hi⟩ := Option.isSome_iff_exists.1 (show (Try.prog.info? 124).isSome = true by kernel_rfl)
  have hc : i.comparable = true := by
    have h : (Try.prog.info? 124).map (·.comparable) = some true := by kernel_rfl
    rw [hi] at h
    simpa using h
  exact run_eql_iface_ptr_same w a Try.underlying117 Try.underlying124 hi hc hj
theorem eqi_TestExpr_ParenTest (a : Addr) (w : World) : (binOp .eql 117 (.iface 121 (.pointer (some a))) (.iface 121 (.pointer (some a)))).run Try.prog w = .ok (.bool true) w := by
  obtain ⟨j, hj⟩ := Option.isSome_iff_exists.1 (show (Try.prog.info? 123).isSome = true by kernel_rfl)
  obtain ⟨i, hi⟩ := Option.isSome_iff_exists.1 (show (Try.prog.info? 121).isSome = true by kernel_rfl)
  have hc : i.comparable = true := by
    have h : (Try.prog.info? 121).map (·.comparable) = some true := by kernel_rfl
    rw [hi] at h
    simpa using h
  exact run_eql_iface_ptr_same w a Try.underlying117 Try.underlying121 hi hc hj
theorem eqi_ArithmExpr_Word (a : Addr) (w : World) : (binOp .eql 34 (.iface 42 (.pointer (some a))) (.iface 42 (.pointer (some a)))).run Try.prog w = .ok (.bool true) w := by
  obtain ⟨j, hj⟩ := Option.isSome_iff_exists.1 (show (Try.prog.info? 45).isSome = true by kernel_rfl)
  obtain ⟨i, hi⟩ := Option.isSome_iff_exists.1 (show (Try.prog.info? 42).isSome = true by kernel_rfl)
  have hc : i.comparable = true := by
    have h : (Try.prog.info? 42).map (·.comparable) = some true := by kernel_rfl
    rw [hi] at h
    simpa using h
  exact run_eql_iface_ptr_same w a Try.underlying34 Try.underlying42 hi hc hj
theorem eqi_ArithmExpr_UnaryArithm (a : Addr) (w : World) : (binOp .eql 34 (.iface 89 (.pointer (some a))) (.iface 89 (.pointer (some a)))).run Try.prog w = .ok (.bool true) w := by
  obtain ⟨j, hj⟩ := Option.isSome_iff_exists.1 (show (Try.prog.info? 92).isSome = true by kernel_rfl)
  obtain ⟨i, hi⟩ := Option.isSome_iff_exists.1 (show (Try.prog.info? 89).isSome = true by kernel_rfl)
  have hc : i.comparable = true := by
    have h : (Try.prog.info? 89).map (·.comparable) = some true := by kernel_rfl
    rw [hi] at h
    simpa using h
  exact run_eql_iface_ptr_same w a Try.underlying34 Try.underlying89 hi hc hj
theorem eqi_ArithmExpr_BinaryArithm (a : Addr) (w : World) : (binOp .eql 34 (.iface 60 (.pointer (some a))) (.iface 60 (.pointer (some a)))).run Try.prog w = .ok (.bool true) w := by
  obtain ⟨j, hj⟩ := Option.isSome_iff_exists.1 (show (Try.prog.info? 63).isSome = true by kernel_rfl)
  obtain ⟨i, hi⟩ := Option.isSome_iff_exists.1 (show (Try.prog.info? 60).isSome = true by kernel_rfl)
  have hc : i.comparable = true := by
    have h : (Try.prog.info? 60).map (·.comparable) = some true := by kernel_rfl
    rw [hi] at h
    simpa using h
  exact run_eql_iface_ptr_same w a Try.underlying34 Try.underlying60 hi hc hj
theorem eqi_ArithmExpr_ParenArithm (a : Addr) (w : World) : (binOp .eql 34 (.iface 48 (.pointer (some a))) (.iface 48 (.pointer (some a)))).run Try.prog w = .ok (.bool true) w := by
  obtain ⟨j, hj⟩ := Option.isSome_iff_exists.1 (show (Try.prog.info? 50).isSome = true by kernel_rfl)
  obtain ⟨i, hi⟩ := Option.isSome_iff_exists.1 (show (Try.prog.info? 48).isSome = true by kernel_rfl)
  have hc : i.comparable = true := by
    have h : (Try.prog.info? 48).map (·.comparable) = some true := by kernel_rfl
    rw [hi] at h
    simpa using h
  exact run_eql_iface_ptr_same w a Try.underlying34 Try.underlying48 hi hc hj
theorem eqi_ArithmExpr_FlagsArithm (a : Addr) (w : World) : (binOp .eql 34 (.iface 93 (.pointer (some a))) (.iface 93 (.pointer (some a)))).run Try.prog w = .ok (.bool true) w := by
  obtain ⟨j, hj⟩ := Option.isSome_iff_exists.1 (show (Try.prog.info? 95).isSome = true by kernel_rfl)
  obtain ⟨i, hi⟩ := Option.isSome_iff_exists.1 (show (Try.prog.info? 93).isSome = true by kernel_rfl)
  have hc : i.comparable = true := by
    have h : (Try.prog.info? 93).map (·.comparable) = some true := by kernel_rfl
    rw [hi] at h
    simpa using h
  exact run_eql_iface_ptr_same w a Try.underlying34 Try.underlying93 hi hc hj
theorem eqi_WordPart_Lit (a : Addr) (w : World) : (binOp .eql 32 (.iface 24 (.pointer (some a))) (.iface 24 (.pointer (some a)))).run Try.prog w = .ok (.bool true) w := by
  obtain ⟨j, hj⟩ := Option.isSome_iff_exists.1 (show (Try.prog.info? 29).isSome = true by kernel_rfl)
  obtain ⟨i, hi⟩ := Option.isSome_iff_exists.1 (show (Try.prog.info? 24).isSome = true by kernel_rfl)
  have hc : i.comparable = true := by
    have h : (Try.prog.info? 24).map (·.comparable) = some true := by kernel_rfl
    rw [hi] at h
    simpa using h
  exact run_eql_iface_ptr_same w a Try.underlying32 Try.underlying24 hi hc hj
theorem eqi_WordPart_SglQuoted (a : Addr) (w : World) : (binOp .eql 32 (.iface 153 (.pointer (some a))) (.iface 153 (.pointer (some a)))).run Try.prog w = .ok (.bool true) w := by
  obtain ⟨j, hj⟩ := Option.isSome_iff_exists.1 (show (Try.prog.info? 156).isSome = true by kernel_rfl)
  obtain ⟨i, hi⟩ := Option.isSome_iff_exists.1 (show (Try.prog.info? 153).isSome = true by kernel_rfl)
  have hc : i.comparable = true := by
    have h : (Try.prog.info? 153).map (·.comparable) = some true := by kernel_rfl
    rw [hi] at h
    simpa using h
  exact run_eql_iface_ptr_same w a Try.underlying32 Try.underlying153 hi hc hj
theorem eqi_WordPart_DblQuoted (a : Addr) (w : World) : (binOp .eql 32 (.iface 141 (.pointer (some a))) (.iface 141 (.pointer (some a)))).run Try.prog w = .ok (.bool true) w := by
  obtain ⟨j, hj⟩ := Option.isSome_iff_exists.1 (show (Try.prog.info? 144).isSome = true by kernel_rfl)
  obtain ⟨i, hi⟩ := Option.isSome_iff_exists.1 (show (Try.prog.info? 141).isSome = true by kernel_rfl)
  have hc : i.comparable = true := by
    have h : (Try.prog.info? 141).map (·.comparable) = some true := by kernel_rfl
    rw [hi] at h
    simpa using h
  exact run_eql_iface_ptr_same w a Try.underlying32 Try.underlying141 hi hc hj
theorem eqi_WordPart_ParamExp (a : Addr) (w : World) : (binOp .eql 32 (.iface 23 (.pointer (some a))) (.iface 23 (.pointer (some a)))).run Try.prog w = .ok (.bool true) w := by
  obtain ⟨j, hj⟩ := Option.isSome_iff_exists.1 (show (Try.prog.info? 41).isSome = true by kernel_rfl)
  obtain ⟨i, hi⟩ := Option.isSome_iff_exists.1 (show (Try.prog.info? 23).isSome = true by kernel_rfl)
  have hc : i.comparable = true := by
    have h : (Try.prog.info? 23).map (·.comparable) = some true := by kernel_rfl
    rw [hi] at h
    simpa using h
  exact run_eql_iface_ptr_same w a Try.underlying32 Try.underlying23 hi hc hj
theorem eqi_WordPart_CmdSubst (a : Addr) (w : World) : (binOp .eql 32 (.iface 106 (.pointer (some a))) (.iface 106 (.pointer (some a)))).run Try.prog w = .ok (.bool true) w := by
  obtain ⟨j, hj⟩ := Option.isSome_iff_exists.1 (show (Try.prog.info? 110).isSome = true by kernel_rfl)
  obtain ⟨i, hi⟩ := Option.isSome_iff_exists.1 (show (Try.prog.info? 106).isSome = true by kernel_rfl)
  have hc : i.comparable = true := by
    have h : (Try.prog.info? 106).map (·.comparable) = some true := by kernel_rfl
    rw [hi] at h
    simpa using h
  exact run_eql_iface_ptr_same w a Try.underlying32 Try.underlying106 hi hc hj
theorem eqi_Command_Subshell (a : Addr) (w : World) : (binOp .eql 136 (.iface 111 (.pointer (some a))) (.iface 111 (.pointer (some a)))).run Try.prog w = .ok (.bool true) w := by
  obtain ⟨j, hj⟩ := Option.isSome_iff_exists.1 (show (Try.prog.info? 113).isSome = true by kernel_rfl)
  obtain ⟨i, hi⟩ := Option.isSome_iff_exists.1 (show (Try.prog.info? 111).isSome = true by kernel_rfl)
  have hc : i.comparable = true := by
    have h : (Try.prog.info? 111).map (·.comparable) = some true := by kernel_rfl
    rw [hi] at h
    simpa using h
  exact run_eql_iface_ptr_same w a Try.underlying136 Try.underlying111 hi hc hj
end Go.Proofs.Ytgeaokgcmhkoaaa
