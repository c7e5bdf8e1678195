/- Closed facts: what a type assertion with two results answers. Conditions: none. -/
import Derived.Test.YtdhoamfpeioieaaChecked
import Derived.WalkKit
import Derived.LaidEqlPtr
import Derived.Lib.Builder
namespace Go.Proofs.Ytdhoamfpeioieaa
open Go.RowKit
theorem as_TestExpr_Word_Word (v : Value) (w : World) : (Instr.typeAssert (.iface 30 v) 45 30 true).run Try.prog w = .ok (.tuple #[v, .bool true]) w := by kernel_rfl
theorem as_TestExpr_UnaryTest_Word (v : Value) (w : World) : (Instr.typeAssert (.iface 55 v) 45 30 true).run Try.prog w = .ok (.tuple #[.pointer none, .bool false]) w := by kernel_rfl
theorem as_TestExpr_BinaryTest_Word (v : Value) (w : World) : (Instr.typeAssert (.iface 56 v) 45 30 true).run Try.prog w = .ok (.tuple #[.pointer none, .bool false]) w := by kernel_rfl
theorem as_TestExpr_ParenTest_Word (v : Value) (w : World) : (Instr.typeAssert (.iface 62 v) 45 30 true).run Try.prog w = .ok (.tuple #[.pointer none, .bool false]) w := by kernel_rfl
theorem as_TestExpr_nil_Word (w : World) : (Instr.typeAssert .nilIface 45 30 true).run Try.prog w = .ok (.tuple #[.pointer none, .bool false]) w := by kernel_rfl
theorem as_TestExpr_Word_UnaryTest (v : Value) (w : World) : (Instr.typeAssert (.iface 30 v) 45 55 true).run Try.prog w = .ok (.tuple #[.pointer none, .bool false]) w := by kernel_rfl
theorem as_TestExpr_UnaryTest_UnaryTest (v : Value) (w : World) : (Instr.typeAssert (.iface 55 v) 45 55 true).run Try.prog w = .ok (.tuple #[v, .bool true]) w := by kernel_rfl
theorem as_TestExpr_BinaryTest_UnaryTest (v : Value) (w : World) : (Instr.typeAssert (.iface 56 v) 45 55 true).run Try.prog w = .ok (.tuple #[.pointer none, .bool false]) w := by kernel_rfl
theorem as_TestExpr_ParenTest_UnaryTest (v : Value) (w : World) : (Instr.typeAssert (.iface 62 v) 45 55 true).run Try.prog w = .ok (.tuple #[.pointer none, .bool false]) w := by kernel_rfl
theorem as_TestExpr_nil_UnaryTest (w : World) : (Instr.typeAssert .nilIface 45 55 true).run Try.prog w = .ok (.tuple #[.pointer none, .bool false]) w := by kernel_rfl
theorem as_TestExpr_Word_BinaryTest (v : Value) (w : World) : (Instr.typeAssert (.iface 30 v) 45 56 true).run Try.prog w = .ok (.tuple #[.pointer none, .bool false]) w := by kernel_rfl
theorem as_TestExpr_UnaryTest_BinaryTest (v : Value) (w : World) : (Instr.typeAssert (.iface 55 v) 45 56 true).run Try.prog w = .ok (.tuple #[.pointer none, .bool false]) w := by kernel_rfl
theorem as_TestExpr_BinaryTest_BinaryTest (v : Value) (w : World) : (Instr.typeAssert (.iface 56 v) 45 56 true).run Try.prog w = .ok (.tuple #[v, .bool true]) w := by kernel_rfl
theorem as_TestExpr_ParenTest_BinaryTest (v : Value) (w : World) : (Instr.typeAssert (.iface 62 v) 45 56 true).run Try.prog w = .ok (.tuple #[.pointer none, .bool false]) w := by kernel_rfl
theorem as_TestExpr_nil_BinaryTest (w : World) : (Instr.typeAssert .nilIface 45 56 true).run Try.prog w = .ok (.tuple #[.pointer none, .bool false]) w := by kernel_rfl
theorem as_TestExpr_Word_ParenTest (v : Value) (w : World) : (Instr.typeAssert (.iface 30 v) 45 62 true).run Try.prog w = .ok (.tuple #[.pointer none, .bool false]) w := by kernel_rfl
theorem as_TestExpr_UnaryTest_ParenTest (v : Value) (w : World) : (Instr.typeAssert (.iface 55 v) 45 62 true).run Try.prog w = .ok (.tuple #[.pointer none, .bool false]) w := by kernel_rfl
theorem as_TestExpr_BinaryTest_ParenTest (v : Value) (w : World) : (Instr.typeAssert (.iface 56 v) 45 62 true).run Try.prog w = .ok (.tuple #[.pointer none, .bool false]) w := by kernel_rfl
theorem as_TestExpr_ParenTest_ParenTest (v : Value) (w : World) : (Instr.typeAssert (.iface 62 v) 45 62 true).run Try.prog w = .ok (.tuple #[v, .bool true]) w := by kernel_rfl
theorem as_TestExpr_nil_ParenTest (w : World) : (Instr.typeAssert .nilIface 45 62 true).run Try.prog w = .ok (.tuple #[.pointer none, .bool false]) w := by kernel_rfl
theorem as_ArithmExpr_Word_Word (v : Value) (w : World) : (Instr.typeAssert (.iface 30 v) 36 30 true).run Try.prog w = .ok (.tuple #[v, .bool true]) w := by kernel_rfl
theorem as_ArithmExpr_nil_Word (w : World) : (Instr.typeAssert .nilIface 36 30 true).run Try.prog w = .ok (.tuple #[.pointer none, .bool false]) w := by kernel_rfl
theorem as_WordPart_Lit_Lit (v : Value) (w : World) : (Instr.typeAssert (.iface 32 v) 102 32 true).run Try.prog w = .ok (.tuple #[v, .bool true]) w := by kernel_rfl
theorem as_WordPart_DblQuoted_Lit (v : Value) (w : World) : (Instr.typeAssert (.iface 41 v) 102 32 true).run Try.prog w = .ok (.tuple #[.pointer none, .bool false]) w := by kernel_rfl
theorem as_WordPart_ParamExp_Lit (v : Value) (w : World) : (Instr.typeAssert (.iface 31 v) 102 32 true).run Try.prog w = .ok (.tuple #[.pointer none, .bool false]) w := by kernel_rfl
theorem as_WordPart_CmdSubst_Lit (v : Value) (w : World) : (Instr.typeAssert (.iface 116 v) 102 32 true).run Try.prog w = .ok (.tuple #[.pointer none, .bool false]) w := by kernel_rfl
theorem as_WordPart_nil_Lit (w : World) : (Instr.typeAssert .nilIface 102 32 true).run Try.prog w = .ok (.tuple #[.pointer none, .bool false]) w := by kernel_rfl
theorem as_WordPart_Lit_DblQuoted (v : Value) (w : World) : (Instr.typeAssert (.iface 32 v) 102 41 true).run Try.prog w = .ok (.tuple #[.pointer none, .bool false]) w := by kernel_rfl
theorem as_WordPart_DblQuoted_DblQuoted (v : Value) (w : World) : (Instr.typeAssert (.iface 41 v) 102 41 true).run Try.prog w = .ok (.tuple #[v, .bool true]) w := by kernel_rfl
theorem as_WordPart_ParamExp_DblQuoted (v : Value) (w : World) : (Instr.typeAssert (.iface 31 v) 102 41 true).run Try.prog w = .ok (.tuple #[.pointer none, .bool false]) w := by kernel_rfl
theorem as_WordPart_CmdSubst_DblQuoted (v : Value) (w : World) : (Instr.typeAssert (.iface 116 v) 102 41 true).run Try.prog w = .ok (.tuple #[.pointer none, .bool false]) w := by kernel_rfl
theorem as_WordPart_nil_DblQuoted (w : World) : (Instr.typeAssert .nilIface 102 41 true).run Try.prog w = .ok (.tuple #[.pointer none, .bool false]) w := by kernel_rfl
theorem as_WordPart_Lit_ParamExp (v : Value) (w : World) : (Instr.typeAssert (.iface 32 v) 102 31 true).run Try.prog w = .ok (.tuple #[.pointer none, .bool false]) w := by kernel_rfl
theorem as_WordPart_DblQuoted_ParamExp (v : Value) (w : World) : (Instr.typeAssert (.iface 41 v) 102 31 true).run Try.prog w = .ok (.tuple #[.pointer none, .bool false]) w := by kernel_rfl
theorem as_WordPart_ParamExp_ParamExp (v : Value) (w : World) : (Instr.typeAssert (.iface 31 v) 102 31 true).run Try.prog w = .ok (.tuple #[v, .bool true]) w := by kernel_rfl
theorem as_WordPart_CmdSubst_ParamExp (v : Value) (w : World) : (Instr.typeAssert (.iface 116 v) 102 31 true).run Try.prog w = .ok (.tuple #[.pointer none, .bool false]) w := by kernel_rfl
theorem as_WordPart_nil_ParamExp (w : World) : (Instr.typeAssert .nilIface 102 31 true).run Try.prog w = .ok (.tuple #[.pointer none, .bool false]) w := by kernel_rfl
theorem as_WordPart_Lit_CmdSubst (v : Value) (w : World) : (Instr.typeAssert (.iface 32 v) 102 116 true).run Try.prog w = .ok (.tuple #[.pointer none, .bool false]) w := by kernel_rfl
theorem as_WordPart_DblQuoted_CmdSubst (v : Value) (w : World) : (Instr.typeAssert (.iface 41 v) 102 116 true).run Try.prog w = .ok (.tuple #[.pointer none, .bool false]) w := by kernel_rfl
theorem as_WordPart_ParamExp_CmdSubst (v : Value) (w : World) : (Instr.typeAssert (.iface 31 v) 102 116 true).run Try.prog w = .ok (.tuple #[.pointer none, .bool false]) w := by kernel_rfl
theorem as_WordPart_CmdSubst_CmdSubst (v : Value) (w : World) : (Instr.typeAssert (.iface 116 v) 102 116 true).run Try.prog w = .ok (.tuple #[v, .bool true]) w := by kernel_rfl
theorem as_WordPart_nil_CmdSubst (w : World) : (Instr.typeAssert .nilIface 102 116 true).run Try.prog w = .ok (.tuple #[.pointer none, .bool false]) w := by kernel_rfl
theorem as_Command_Subshell_Subshell (v : Value) (w : World) : (Instr.typeAssert (.iface 87 v) 83 87 true).run Try.prog w = .ok (.tuple #[v, .bool true]) w := by kernel_rfl
theorem as_Command_CallExpr_Subshell (v : Value) (w : World) : (Instr.typeAssert (.iface 76 v) 83 87 true).run Try.prog w = .ok (.tuple #[.pointer none, .bool false]) w := by kernel_rfl
theorem as_Command_nil_Subshell (w : World) : (Instr.typeAssert .nilIface 83 87 true).run Try.prog w = .ok (.tuple #[.pointer none, .bool false]) w := by kernel_rfl
theorem as_Command_Subshell_CallExpr (v : Value) (w : World) : (Instr.typeAssert (.iface 87 v) 83 76 true).run Try.prog w = .ok (.tuple #[.pointer none, .bool false]) w := by kernel_rfl
theorem as_Command_CallExpr_CallExpr (v : Value) (w : World) : (Instr.typeAssert (.iface 76 v) 83 76 true).run Try.prog w = .ok (.tuple #[v, .bool true]) w := by kernel_rfl
theorem as_Command_nil_CallExpr (w : World) : (Instr.typeAssert .nilIface 83 76 true).run Try.prog w = .ok (.tuple #[.pointer none, .bool false]) w := by kernel_rfl
theorem eq_BinaryTest (a : Addr) (w : World) : (binOp .eql 56 (.pointer (some a)) (.pointer (some a))).run Try.prog w = .ok (.bool true) w := by
  obtain ⟨j, hj⟩ := Option.isSome_iff_exists.1 (show (Try.prog.info? 74).isSome = true by kernel_rfl)
  exact run_eql_ptr_same w a Try.underlying56 hj
theorem ne_BinaryTest (a : Addr) (w : World) : (binOp .neq 56 (.pointer (some a)) (.pointer (some a))).run Try.prog w = .ok (.bool false) w := by
  obtain ⟨j, hj⟩ := Option.isSome_iff_exists.1 (show (Try.prog.info? 74).isSome = true by kernel_rfl)
  exact Lib.run_neq_ptr_same w a Try.underlying56 hj
theorem eq_CallExpr (a : Addr) (w : World) : (binOp .eql 76 (.pointer (some a)) (.pointer (some a))).run Try.prog w = .ok (.bool true) w := by
  obtain ⟨j, hj⟩ := Option.isSome_iff_exists.1 (show (Try.prog.info? 80).isSome = true by kernel_rfl)
  exact run_eql_ptr_same w a Try.underlying76 hj
theorem ne_CallExpr (a : Addr) (w : World) : (binOp .neq 76 (.pointer (some a)) (.pointer (some a))).run Try.prog w = .ok (.bool false) w := by
  obtain ⟨j, hj⟩ := Option.isSome_iff_exists.1 (show (Try.prog.info? 80).isSome = true by kernel_rfl)
  exact Lib.run_neq_ptr_same w a Try.underlying76 hj
theorem eq_CmdSubst (a : Addr) (w : World) : (binOp .eql 116 (.pointer (some a)) (.pointer (some a))).run Try.prog w = .ok (.bool true) w := by
  obtain ⟨j, hj⟩ := Option.isSome_iff_exists.1 (show (Try.prog.info? 118).isSome = true by kernel_rfl)
  exact run_eql_ptr_same w a Try.underlying116 hj
theorem ne_CmdSubst (a : Addr) (w : World) : (binOp .neq 116 (.pointer (some a)) (.pointer (some a))).run Try.prog w = .ok (.bool false) w := by
  obtain ⟨j, hj⟩ := Option.isSome_iff_exists.1 (show (Try.prog.info? 118).isSome = true by kernel_rfl)
  exact Lib.run_neq_ptr_same w a Try.underlying116 hj
theorem eq_DblQuoted (a : Addr) (w : World) : (binOp .eql 41 (.pointer (some a)) (.pointer (some a))).run Try.prog w = .ok (.bool true) w := by
  obtain ⟨j, hj⟩ := Option.isSome_iff_exists.1 (show (Try.prog.info? 106).isSome = true by kernel_rfl)
  exact run_eql_ptr_same w a Try.underlying41 hj
theorem ne_DblQuoted (a : Addr) (w : World) : (binOp .neq 41 (.pointer (some a)) (.pointer (some a))).run Try.prog w = .ok (.bool false) w := by
  obtain ⟨j, hj⟩ := Option.isSome_iff_exists.1 (show (Try.prog.info? 106).isSome = true by kernel_rfl)
  exact Lib.run_neq_ptr_same w a Try.underlying41 hj
theorem eq_Lit (a : Addr) (w : World) : (binOp .eql 32 (.pointer (some a)) (.pointer (some a))).run Try.prog w = .ok (.bool true) w := by
  obtain ⟨j, hj⟩ := Option.isSome_iff_exists.1 (show (Try.prog.info? 104).isSome = true by kernel_rfl)
  exact run_eql_ptr_same w a Try.underlying32 hj
theorem ne_Lit (a : Addr) (w : World) : (binOp .neq 32 (.pointer (some a)) (.pointer (some a))).run Try.prog w = .ok (.bool false) w := by
  obtain ⟨j, hj⟩ := Option.isSome_iff_exists.1 (show (Try.prog.info? 104).isSome = true by kernel_rfl)
  exact Lib.run_neq_ptr_same w a Try.underlying32 hj
theorem eq_ParamExp (a : Addr) (w : World) : (binOp .eql 31 (.pointer (some a)) (.pointer (some a))).run Try.prog w = .ok (.bool true) w := by
  obtain ⟨j, hj⟩ := Option.isSome_iff_exists.1 (show (Try.prog.info? 115).isSome = true by kernel_rfl)
  exact run_eql_ptr_same w a Try.underlying31 hj
theorem ne_ParamExp (a : Addr) (w : World) : (binOp .neq 31 (.pointer (some a)) (.pointer (some a))).run Try.prog w = .ok (.bool false) w := by
  obtain ⟨j, hj⟩ := Option.isSome_iff_exists.1 (show (Try.prog.info? 115).isSome = true by kernel_rfl)
  exact Lib.run_neq_ptr_same w a Try.underlying31 hj
theorem eq_ParenTest (a : Addr) (w : World) : (binOp .eql 62 (.pointer (some a)) (.pointer (some a))).run Try.prog w = .ok (.bool true) w := by
  obtain ⟨j, hj⟩ := Option.isSome_iff_exists.1 (show (Try.prog.info? 68).isSome = true by kernel_rfl)
  exact run_eql_ptr_same w a Try.underlying62 hj
theorem ne_ParenTest (a : Addr) (w : World) : (binOp .neq 62 (.pointer (some a)) (.pointer (some a))).run Try.prog w = .ok (.bool false) w := by
  obtain ⟨j, hj⟩ := Option.isSome_iff_exists.1 (show (Try.prog.info? 68).isSome = true by kernel_rfl)
  exact Lib.run_neq_ptr_same w a Try.underlying62 hj
theorem eq_Subshell (a : Addr) (w : World) : (binOp .eql 87 (.pointer (some a)) (.pointer (some a))).run Try.prog w = .ok (.bool true) w := by
  obtain ⟨j, hj⟩ := Option.isSome_iff_exists.1 (show (Try.prog.info? 89).isSome = true by kernel_rfl)
  exact run_eql_ptr_same w a Try.underlying87 hj
theorem ne_Subshell (a : Addr) (w : World) : (binOp .neq 87 (.pointer (some a)) (.pointer (some a))).run Try.prog w = .ok (.bool false) w := by
  obtain ⟨j, hj⟩ := Option.isSome_iff_exists.1 (show (Try.prog.info? 89).isSome = true by kernel_rfl)
  exact Lib.run_neq_ptr_same w a Try.underlying87 hj
theorem eq_UnaryTest (a : Addr) (w : World) : (binOp .eql 55 (.pointer (some a)) (.pointer (some a))).run Try.prog w = .ok (.bool true) w := by
  obtain ⟨j, hj⟩ := Option.isSome_iff_exists.1 (show (Try.prog.info? 71).isSome = true by kernel_rfl)
  exact run_eql_ptr_same w a Try.underlying55 hj
theorem ne_UnaryTest (a : Addr) (w : World) : (binOp .neq 55 (.pointer (some a)) (.pointer (some a))).run Try.prog w = .ok (.bool false) w := by
  obtain ⟨j, hj⟩ := Option.isSome_iff_exists.1 (show (Try.prog.info? 71).isSome = true by kernel_rfl)
  exact Lib.run_neq_ptr_same w a Try.underlying55 hj
theorem eq_Word (a : Addr) (w : World) : (binOp .eql 30 (.pointer (some a)) (.pointer (some a))).run Try.prog w = .ok (.bool true) w := by
  obtain ⟨j, hj⟩ := Option.isSome_iff_exists.1 (show (Try.prog.info? 51).isSome = true by kernel_rfl)
  exact run_eql_ptr_same w a Try.underlying30 hj
theorem ne_Word (a : Addr) (w : World) : (binOp .neq 30 (.pointer (some a)) (.pointer (some a))).run Try.prog w = .ok (.bool false) w := by
  obtain ⟨j, hj⟩ := Option.isSome_iff_exists.1 (show (Try.prog.info? 51).isSome = true by kernel_rfl)
  exact Lib.run_neq_ptr_same w a Try.underlying30 hj
theorem eq_Stmt (a : Addr) (w : World) : (binOp .eql 75 (.pointer (some a)) (.pointer (some a))).run Try.prog w = .ok (.bool true) w := by
  obtain ⟨j, hj⟩ := Option.isSome_iff_exists.1 (show (Try.prog.info? 86).isSome = true by kernel_rfl)
  exact run_eql_ptr_same w a Try.underlying75 hj
theorem ne_Stmt (a : Addr) (w : World) : (binOp .neq 75 (.pointer (some a)) (.pointer (some a))).run Try.prog w = .ok (.bool false) w := by
  obtain ⟨j, hj⟩ := Option.isSome_iff_exists.1 (show (Try.prog.info? 86).isSome = true by kernel_rfl)
  exact Lib.run_neq_ptr_same w a Try.underlying75 hj
theorem eqi_TestExpr_Word (a : Addr) (w : World) : (binOp .eql 45 (.iface 30 (.pointer (some a))) (.iface 30 (.pointer (some a)))).run Try.prog w = .ok (.bool true) w := by
  obtain ⟨j, hj⟩ := Option.isSome_iff_exists.1 (show (Try.prog.info? 51).isSome = true by kernel_rfl)
  obtain ⟨i, hi⟩ := Option.isSome_iff_exists.1 (show (Try.prog.info? 30).isSome = true by kernel_rfl)
  have hc : i.comparable = true := by
    have h : (Try.prog.info? 30).map (·.comparable) = some true := by kernel_rfl
    rw [hi] at h
    simpa using h
  exact run_eql_iface_ptr_same w a Try.underlying45 Try.underlying30 hi hc hj
theorem eqi_TestExpr_UnaryTest (a : Addr) (w : World) : (binOp .eql 45 (.iface 55 (.pointer (some a))) (.iface 55 (.pointer (some a)))).run Try.prog w = .ok (.bool true) w := by
  obtain ⟨j, hj⟩ := Option.isSome_iff_exists.1 (show (Try.prog.info? 71).isSome = true by kernel_rfl)
  obtain ⟨i, hi⟩ := Option.isSome_iff_exists.1 (show (Try.prog.info? 55).isSome = true by kernel_rfl)
  have hc : i.comparable = true := by
    have h : (Try.prog.info? 55).map (·.comparable) = some true := by kernel_rfl
    rw [hi] at h
    simpa using h
  exact run_eql_iface_ptr_same w a Try.underlying45 Try.underlying55 hi hc hj
theorem eqi_TestExpr_BinaryTest (a : Addr) (w : World) : (binOp .eql 45 (.iface 56 (.pointer (some a))) (.iface 56 (.pointer (some a)))).run Try.prog w = .ok (.bool true) w := by
  obtain ⟨j, hj⟩ := Option.isSome_iff_exists.1 (show (Try.prog.info? 74).isSome = true by kernel_rfl)
  obtain ⟨i, hi⟩ := Option.isSome_iff_exists.1 (show (Try.prog.info? 56).isSome = true by kernel_rfl)
  have hc : i.comparable = true := by
    have h : (Try.prog.info? 56).map (·.comparable) = some true := by kernel_rfl
    rw [hi] at h
    simpa using h
  exact run_eql_iface_ptr_same w a Try.underlying45 Try.underlying56 hi hc hj
theorem eqi_TestExpr_ParenTest (a : Addr) (w : World) : (binOp .eql 45 (.iface 62 (.pointer (some a))) (.iface 62 (.pointer (some a)))).run Try.prog w = .ok (.bool true) w := by
  obtain ⟨j, hj⟩ := Option.isSome_iff_exists.1 (show (Try.prog.info? 68).isSome = true by kernel_rfl)
  obtain ⟨i, hi⟩ := Option.isSome_iff_exists.1 (show (Try.prog.info? 62).isSome = true by kernel_rfl)
  have hc : i.comparable = true := by
    have h : (Try.prog.info? 62).map (·.comparable) = some true := by kernel_rfl
    rw [hi] at h
    simpa using h
  exact run_eql_iface_ptr_same w a Try.underlying45 Try.underlying62 hi hc hj
theorem eqi_ArithmExpr_Word (a : Addr) (w : World) : (binOp .eql 36 (.iface 30 (.pointer (some a))) (.iface 30 (.pointer (some a)))).run Try.prog w = .ok (.bool true) w := by
  obtain ⟨j, hj⟩ := Option.isSome_iff_exists.1 (show (Try.prog.info? 51).isSome = true by kernel_rfl)
  obtain ⟨i, hi⟩ := Option.isSome_iff_exists.1 (show (Try.prog.info? 30).isSome = true by kernel_rfl)
  have hc : i.comparable = true := by
    have h : (Try.prog.info? 30).map (·.comparable) = some true := by kernel_rfl
    rw [hi] at h
    simpa using h
  exact run_eql_iface_ptr_same w a Try.underlying36 Try.underlying30 hi hc hj
theorem eqi_WordPart_Lit (a : Addr) (w : World) : (binOp .eql 102 (.iface 32 (.pointer (some a))) (.iface 32 (.pointer (some a)))).run Try.prog w = .ok (.bool true) w := by
  obtain ⟨j, hj⟩ := Option.isSome_iff_exists.1 (show (Try.prog.info? 104).isSome = true by kernel_rfl)
  obtain ⟨i, hi⟩ := Option.isSome_iff_exists.1 (show (Try.prog.info? 32).isSome = true by kernel_rfl)
  have hc : i.comparable = true := by
    have h : (Try.prog.info? 32).map (·.comparable) = some true := by kernel_rfl
    rw [hi] at h
    simpa using h
  exact run_eql_iface_ptr_same w a Try.underlying102 Try.underlying32 hi hc hj
theorem eqi_WordPart_DblQuoted (a : Addr) (w : World) : (binOp .eql 102 (.iface 41 (.pointer (some a))) (.iface 41 (.pointer (some a)))).run Try.prog w = .ok (.bool true) w := by
  obtain ⟨j, hj⟩ := Option.isSome_iff_exists.1 (show (Try.prog.info? 106).isSome = true by kernel_rfl)
  obtain ⟨i, hi⟩ := Option.isSome_iff_exists.1 (show (Try.prog.info? 41).isSome = true by kernel_rfl)
  have hc : i.comparable = true := by
    have h : (Try.prog.info? 41).map (·.comparable) = some true := by kernel_rfl
    rw [hi] at h
    simpa using h
  exact run_eql_iface_ptr_same w a Try.underlying102 Try.underlying41 hi hc hj
theorem eqi_WordPart_ParamExp (a : Addr) (w : World) : (binOp .eql 102 (.iface 31 (.pointer (some a))) (.iface 31 (.pointer (some a)))).run Try.prog w = .ok (.bool true) w := by
  obtain ⟨j, hj⟩ := Option.isSome_iff_exists.1 (show (Try.prog.info? 115).isSome = true by kernel_rfl)
  obtain ⟨i, hi⟩ := Option.isSome_iff_exists.1 (show (Try.prog.info? 31).isSome = true by kernel_rfl)
  have hc : i.comparable = true := by
    have h : (Try.prog.info? 31).map (·.comparable) = some true := by kernel_rfl
    rw [hi] at h
    simpa using h
  exact run_eql_iface_ptr_same w a Try.underlying102 Try.underlying31 hi hc hj
theorem eqi_WordPart_CmdSubst (a : Addr) (w : World) : (binOp .eql 102 (.iface 116 (.pointer (some a))) (.iface 116 (.pointer (some a)))).run Try.prog w = .ok (.bool true) w := by
  obtain ⟨j, hj⟩ := Option.isSome_iff_exists.1 (show (Try.prog.info? 118).isSome = true by kernel_rfl)
  obtain ⟨i, hi⟩ := Option.isSome_iff_exists.1 (show (Try.prog.info? 116).isSome = true by kernel_rfl)
  have hc : i.comparable = true := by
    have h : (Try.prog.info? 116).map (·.comparable) = some true := by kernel_rfl
    rw [hi] at h
    simpa using h
  exact run_eql_iface_ptr_same w a Try.underlying102 Try.underlying116 hi hc hj
theorem eqi_Command_Subshell (a : Addr) (w : World) : (binOp .eql 83 (.iface 87 (.pointer (some a))) (.iface 87 (.pointer (some a)))).run Try.prog w = .ok (.bool true) w := by
  obtain ⟨j, hj⟩ := Option.isSome_iff_exists.1 (show (Try.prog.info? 89).isSome = true by kernel_rfl)
  obtain ⟨i, hi⟩ := Option.isSome_iff_exists.1 (show (Try.prog.info? 87).isSome = true by kernel_rfl)
  have hc : i.comparable = true := by
    have h : (Try.prog.info? 87).map (·.comparable) = some true := by kernel_rfl
    rw [hi] at h
    simpa using h
  exact run_eql_iface_ptr_same w a Try.underlying83 Try.underlying87 hi hc hj
theorem eqi_Command_CallExpr (a : Addr) (w : World) : (binOp .eql 83 (.iface 76 (.pointer (some a))) (.iface 76 (.pointer (some a)))).run Try.prog w = .ok (.bool true) w := by
  obtain ⟨j, hj⟩ := Option.isSome_iff_exists.1 (show (Try.prog.info? 80).isSome = true by kernel_rfl)
  obtain ⟨i, hi⟩ := Option.isSome_iff_exists.1 (show (Try.prog.info? 76).isSome = true by kernel_rfl)
  have hc : i.comparable = true := by
    have h : (Try.prog.info? 76).map (·.comparable) = some true := by kernel_rfl
    rw [hi] at h
    simpa using h
  exact run_eql_iface_ptr_same w a Try.underlying83 Try.underlying76 hi hc hj
end Go.Proofs.Ytdhoamfpeioieaa
