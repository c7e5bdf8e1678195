/- What visit does to the nodes of the law. Conditions: the cells. -/
import Derived.Test.YtgeaokgcmhkoaaaSimp
import Derived.Test.YtgeaokgcmhkoaaaMapIf
import Derived.Deep.RegionHeld3
namespace Go.Proofs.Ytgeaokgcmhkoaaa
open Go.RowKit
set_option linter.unusedVariables false
set_option linter.unusedSimpArgs false

theorem nd_ParamExp_Assign (v : Value) (w : World) : (Instr.typeAssert (.iface 23 v) 87 97 true).run Try.prog w = .ok (.tuple #[.pointer none, .bool false]) w := by kernel_rfl
theorem nd_ParamExp_ArrayElem (v : Value) (w : World) : (Instr.typeAssert (.iface 23 v) 87 102 true).run Try.prog w = .ok (.tuple #[.pointer none, .bool false]) w := by kernel_rfl
theorem nd_ParamExp_ParamExp (v : Value) (w : World) : (Instr.typeAssert (.iface 23 v) 87 23 true).run Try.prog w = .ok (.tuple #[v, .bool true]) w := by kernel_rfl
theorem nd_ArithmExp_Assign (v : Value) (w : World) : (Instr.typeAssert (.iface 53 v) 87 97 true).run Try.prog w = .ok (.tuple #[.pointer none, .bool false]) w := by kernel_rfl
theorem nd_ArithmExp_ArrayElem (v : Value) (w : World) : (Instr.typeAssert (.iface 53 v) 87 102 true).run Try.prog w = .ok (.tuple #[.pointer none, .bool false]) w := by kernel_rfl
theorem nd_ArithmExp_ParamExp (v : Value) (w : World) : (Instr.typeAssert (.iface 53 v) 87 23 true).run Try.prog w = .ok (.tuple #[.pointer none, .bool false]) w := by kernel_rfl
theorem nd_ArithmExp_ArithmExp (v : Value) (w : World) : (Instr.typeAssert (.iface 53 v) 87 53 true).run Try.prog w = .ok (.tuple #[v, .bool true]) w := by kernel_rfl
theorem nd_ArithmCmd_Assign (v : Value) (w : World) : (Instr.typeAssert (.iface 57 v) 87 97 true).run Try.prog w = .ok (.tuple #[.pointer none, .bool false]) w := by kernel_rfl
theorem nd_ArithmCmd_ArrayElem (v : Value) (w : World) : (Instr.typeAssert (.iface 57 v) 87 102 true).run Try.prog w = .ok (.tuple #[.pointer none, .bool false]) w := by kernel_rfl
theorem nd_ArithmCmd_ParamExp (v : Value) (w : World) : (Instr.typeAssert (.iface 57 v) 87 23 true).run Try.prog w = .ok (.tuple #[.pointer none, .bool false]) w := by kernel_rfl
theorem nd_ArithmCmd_ArithmExp (v : Value) (w : World) : (Instr.typeAssert (.iface 57 v) 87 53 true).run Try.prog w = .ok (.tuple #[.pointer none, .bool false]) w := by kernel_rfl
theorem nd_ArithmCmd_ArithmCmd (v : Value) (w : World) : (Instr.typeAssert (.iface 57 v) 87 57 true).run Try.prog w = .ok (.tuple #[v, .bool true]) w := by kernel_rfl
theorem nd_ParenArithm_Assign (v : Value) (w : World) : (Instr.typeAssert (.iface 48 v) 87 97 true).run Try.prog w = .ok (.tuple #[.pointer none, .bool false]) w := by kernel_rfl
theorem nd_ParenArithm_ArrayElem (v : Value) (w : World) : (Instr.typeAssert (.iface 48 v) 87 102 true).run Try.prog w = .ok (.tuple #[.pointer none, .bool false]) w := by kernel_rfl
theorem nd_ParenArithm_ParamExp (v : Value) (w : World) : (Instr.typeAssert (.iface 48 v) 87 23 true).run Try.prog w = .ok (.tuple #[.pointer none, .bool false]) w := by kernel_rfl
theorem nd_ParenArithm_ArithmExp (v : Value) (w : World) : (Instr.typeAssert (.iface 48 v) 87 53 true).run Try.prog w = .ok (.tuple #[.pointer none, .bool false]) w := by kernel_rfl
theorem nd_ParenArithm_ArithmCmd (v : Value) (w : World) : (Instr.typeAssert (.iface 48 v) 87 57 true).run Try.prog w = .ok (.tuple #[.pointer none, .bool false]) w := by kernel_rfl
theorem nd_ParenArithm_ParenArithm (v : Value) (w : World) : (Instr.typeAssert (.iface 48 v) 87 48 true).run Try.prog w = .ok (.tuple #[v, .bool true]) w := by kernel_rfl
theorem nd_BinaryArithm_Assign (v : Value) (w : World) : (Instr.typeAssert (.iface 60 v) 87 97 true).run Try.prog w = .ok (.tuple #[.pointer none, .bool false]) w := by kernel_rfl
theorem nd_BinaryArithm_ArrayElem (v : Value) (w : World) : (Instr.typeAssert (.iface 60 v) 87 102 true).run Try.prog w = .ok (.tuple #[.pointer none, .bool false]) w := by kernel_rfl
theorem nd_BinaryArithm_ParamExp (v : Value) (w : World) : (Instr.typeAssert (.iface 60 v) 87 23 true).run Try.prog w = .ok (.tuple #[.pointer none, .bool false]) w := by kernel_rfl
theorem nd_BinaryArithm_ArithmExp (v : Value) (w : World) : (Instr.typeAssert (.iface 60 v) 87 53 true).run Try.prog w = .ok (.tuple #[.pointer none, .bool false]) w := by kernel_rfl
theorem nd_BinaryArithm_ArithmCmd (v : Value) (w : World) : (Instr.typeAssert (.iface 60 v) 87 57 true).run Try.prog w = .ok (.tuple #[.pointer none, .bool false]) w := by kernel_rfl
theorem nd_BinaryArithm_ParenArithm (v : Value) (w : World) : (Instr.typeAssert (.iface 60 v) 87 48 true).run Try.prog w = .ok (.tuple #[.pointer none, .bool false]) w := by kernel_rfl
theorem nd_BinaryArithm_BinaryArithm (v : Value) (w : World) : (Instr.typeAssert (.iface 60 v) 87 60 true).run Try.prog w = .ok (.tuple #[v, .bool true]) w := by kernel_rfl
theorem ptr_Paren : PtrT Try.prog 48 := ptr_of Try.underlying48 (by kernel_rfl) (by kernel_rfl)
theorem ptr_Binary : PtrT Try.prog 60 := ptr_of Try.underlying60 (by kernel_rfl) (by kernel_rfl)
theorem zero_bool (w : World) : (zeroValue 4).run Try.prog w = .ok (.bool false) w := by kernel_rfl
/-- cell o of node d holds what the law wants there -/
def VPost (V : World) (sb c lo W l d o : Nat) (I m : Bool) (e : Ending) (w' : World) : Prop :=
  e = .returned (.tuple #[]) ∧ ∃ N, w'.cell? ⟨d, o, none⟩ = some (.iface 42 (.pointer (some ⟨N, 0, none⟩))) ∧ Simp w' sb c m ∧ NewW w' lo W N l I ∧ Below V.heap.size V w'
theorem far_from {V w w' : World} {b : Nat} (h : Below V.heap.size V w) (hg : w.grownBy w' (some b)) (hb : V.heap.size ≤ b) : Below V.heap.size V w' := h.grown hg h.size (fun g e => by cases e; exact hb)
set_option maxRecDepth 1000000 in
set_option maxHeartbeats 4000000 in
theorem vis_par (sb c lo W l d k : Nat) (x : Value) (I : Bool) (V w : World) (hw : WordIs V W l I) (hV : Below V.heap.size V w) (hVc : V.heap.size ≤ c) (hs : Simp w sb c false) (hch : Chain 48 w lo sb (.iface 42 (.pointer (some ⟨W, 0, none⟩))) k x) (hd : sb < d) (hcd : w.cell? ⟨d, 4, none⟩ = some x) (hfd : w.frozen? ⟨d, 4, none⟩ = false) :
    Calls Try.prog 18 #[.pointer (some ⟨sb, 0, none⟩), .iface 48 (.pointer (some ⟨d, 0, none⟩))] w (VPost V sb c w.heap.size W l d 4 I (decide (0 < k) || I)) := by
  have t0 := nd_ParenArithm_Assign
  have t1 := nd_ParenArithm_ArrayElem
  have t2 := nd_ParenArithm_ParamExp
  have t3 := nd_ParenArithm_ArithmExp
  have t4 := nd_ParenArithm_ArithmCmd
  have t5 := nd_ParenArithm_ParenArithm
  have hcs := hs.2.2.2.2
  have zs := hs.lt
  have zd : d < w.heap.size := by have := World.block_lt_of_cell? _ _ hcd; simpa using this
  have HC := Lib.hid hch
  have HS := Lib.hid hs
  have HV := Lib.hid hV
  have HW := Lib.hid hw
  have HD := Lib.hid (And.intro hcd hfd)
  have hdb : d ≠ sb := by omega
  have hdc : d ≠ c := by omega
  clear hch hs hV hw
  go_enter Try.func18, Try.ntmps18
  go_wp2_with fail
  refine (rp_any sb c lo _ _ k false _ HS.out HC.out (as_ArithmExpr_Word_ParenArithm _)).mono ?_
  rintro e w1 ⟨rfl, hS1, hG1⟩
  have HS1 := Lib.hid hS1
  have HG1 := Lib.hid hG1
  have c1 := gcell hG1 HD.out.1 hdb
  have f1 := (gfree hG1 zd hdb).trans HD.out.2
  have z1 := hG1.size
  have zd1 : d < w1.heap.size := by omega
  clear hS1 hG1 hcd hfd
  have k1 := HS1.out.2.1
  have zs1 : sb < w1.heap.size := by omega
  have HS2 := Lib.hid (HS1.out.set (o := 4) (v := .iface 42 (.pointer (some ⟨W, 0, none⟩))) hdb hdc)
  have HV2 := Lib.hid (show Below V.heap.size V (w1.setCell ⟨d, 4, none⟩ (.iface 42 (.pointer (some ⟨W, 0, none⟩)))) from (far_from HV.out HG1.out (by omega)).setCell (p := ⟨d, 4, none⟩) (by show V.heap.size ≤ d; omega) _)
  go_wp2_with (first | (at_lookup; (refine wpList_lookup_empty _ rfl _ _ 83 rfl Try.underlying83 Try.underlying34 ptr_Paren rfl (HS2.out.2.2.2.1) rfl (zero_bool _) ?_)))
  refine (isp_any sb c W l I _ V _ HW.out HV2.out HS2.out (by omega)).mono ?_
  rintro e w2 ⟨N, rfl, hS3, hG3, hN⟩
  have HS3 := Lib.hid hS3
  have HG3 := Lib.hid hG3
  have HN := Lib.hid hN
  have c2 := gcell hG3 (show (w1.setCell ⟨d, 4, none⟩ (.iface 42 (.pointer (some ⟨W, 0, none⟩)))).cell? ⟨d, 4, none⟩ = some (.iface 42 (.pointer (some ⟨W, 0, none⟩))) by simp [go_sem, c1]) hdb
  have f2 := (gfree (o := 4) hG3 (by simpa using zd1) hdb).trans (show (w1.setCell ⟨d, 4, none⟩ (.iface 42 (.pointer (some ⟨W, 0, none⟩)))).frozen? ⟨d, 4, none⟩ = false by simp [go_sem, f1])
  have z2 := hG3.size
  simp at z2
  have zd2 : d < w2.heap.size := by omega
  clear hS3 hG3 hN c1 f1 k1
  go_wp2_with fail
  refine bodyPost_end (v := .tuple #[]) (by simp [results, Try.results18]) rfl ⟨rfl, N, by simp [go_sem, c2], HS3.out.set hdb hdc, ?_, (far_from HV2.out HG3.out (by omega)).setCell (p := ⟨d, 4, none⟩) (by show V.heap.size ≤ d; omega) _⟩
  refine NewW.low (NewW.keep HN.out (fun b hb _ => ?_)) (by simp; omega)
  simp at hb
  exact Below.heap_setCell _ _ _ _ (fun e => by simp at e; omega)
set_option maxRecDepth 1000000 in
set_option maxHeartbeats 4000000 in
theorem vis_exp (sb c lo W l d k : Nat) (x : Value) (I : Bool) (V w : World) (hw : WordIs V W l I) (hV : Below V.heap.size V w) (hVc : V.heap.size ≤ c) (hs : Simp w sb c false) (hch : Chain 48 w lo sb (.iface 42 (.pointer (some ⟨W, 0, none⟩))) k x) (hd : sb < d) (hcd : w.cell? ⟨d, 6, none⟩ = some x) (hfd : w.frozen? ⟨d, 6, none⟩ = false) :
    Calls Try.prog 18 #[.pointer (some ⟨sb, 0, none⟩), .iface 53 (.pointer (some ⟨d, 0, none⟩))] w (VPost V sb c w.heap.size W l d 6 I (decide (0 < k) || I)) := by
  have t0 := nd_ArithmExp_Assign
  have t1 := nd_ArithmExp_ArrayElem
  have t2 := nd_ArithmExp_ParamExp
  have t3 := nd_ArithmExp_ArithmExp
  have hcs := hs.2.2.2.2
  have zs := hs.lt
  have zd : d < w.heap.size := by have := World.block_lt_of_cell? _ _ hcd; simpa using this
  have HC := Lib.hid hch
  have HS := Lib.hid hs
  have HV := Lib.hid hV
  have HW := Lib.hid hw
  have HD := Lib.hid (And.intro hcd hfd)
  have hdb : d ≠ sb := by omega
  have hdc : d ≠ c := by omega
  clear hch hs hV hw
  go_enter Try.func18, Try.ntmps18
  go_wp2_with fail
  refine (rp_any sb c lo _ _ k false _ HS.out HC.out (as_ArithmExpr_Word_ParenArithm _)).mono ?_
  rintro e w1 ⟨rfl, hS1, hG1⟩
  have HS1 := Lib.hid hS1
  have HG1 := Lib.hid hG1
  have c1 := gcell hG1 HD.out.1 hdb
  have f1 := (gfree hG1 zd hdb).trans HD.out.2
  have z1 := hG1.size
  have zd1 : d < w1.heap.size := by omega
  clear hS1 hG1 hcd hfd
  have HS2 := Lib.hid (HS1.out.set (o := 6) (v := .iface 42 (.pointer (some ⟨W, 0, none⟩))) hdb hdc)
  have HV2 := Lib.hid (show Below V.heap.size V (w1.setCell ⟨d, 6, none⟩ (.iface 42 (.pointer (some ⟨W, 0, none⟩)))) from (far_from HV.out HG1.out (by omega)).setCell (p := ⟨d, 6, none⟩) (by show V.heap.size ≤ d; omega) _)
  go_wp2_with fail
  refine (isp_any sb c W l I _ V _ HW.out HV2.out HS2.out (by omega)).mono ?_
  rintro e w2 ⟨N, rfl, hS3, hG3, hN⟩
  have HS3 := Lib.hid hS3
  have HG3 := Lib.hid hG3
  have HN := Lib.hid hN
  have c2 := gcell hG3 (show (w1.setCell ⟨d, 6, none⟩ (.iface 42 (.pointer (some ⟨W, 0, none⟩)))).cell? ⟨d, 6, none⟩ = some (.iface 42 (.pointer (some ⟨W, 0, none⟩))) by simp [go_sem, c1]) hdb
  have f2 := (gfree (o := 6) hG3 (by simpa using zd1) hdb).trans (show (w1.setCell ⟨d, 6, none⟩ (.iface 42 (.pointer (some ⟨W, 0, none⟩)))).frozen? ⟨d, 6, none⟩ = false by simp [go_sem, f1])
  have z2 := hG3.size
  simp at z2
  have zd2 : d < w2.heap.size := by omega
  clear hS3 hG3 hN c1 f1
  go_wp2_with fail
  refine bodyPost_end (v := .tuple #[]) (by simp [results, Try.results18]) rfl ⟨rfl, N, by simp [go_sem, c2], HS3.out.set hdb hdc, ?_, (far_from HV2.out HG3.out (by omega)).setCell (p := ⟨d, 6, none⟩) (by show V.heap.size ≤ d; omega) _⟩
  refine NewW.low (NewW.keep HN.out (fun b hb _ => ?_)) (by simp; omega)
  simp at hb
  exact Below.heap_setCell _ _ _ _ (fun e => by simp at e; omega)
set_option maxRecDepth 1000000 in
set_option maxHeartbeats 4000000 in
theorem vis_cmd (sb c lo W l d k : Nat) (x : Value) (I : Bool) (V w : World) (hw : WordIs V W l I) (hV : Below V.heap.size V w) (hVc : V.heap.size ≤ c) (hs : Simp w sb c false) (hch : Chain 48 w lo sb (.iface 42 (.pointer (some ⟨W, 0, none⟩))) k x) (hd : sb < d) (hcd : w.cell? ⟨d, 5, none⟩ = some x) (hfd : w.frozen? ⟨d, 5, none⟩ = false) :
    Calls Try.prog 18 #[.pointer (some ⟨sb, 0, none⟩), .iface 57 (.pointer (some ⟨d, 0, none⟩))] w (VPost V sb c w.heap.size W l d 5 I (decide (0 < k) || I)) := by
  have t0 := nd_ArithmCmd_Assign
  have t1 := nd_ArithmCmd_ArrayElem
  have t2 := nd_ArithmCmd_ParamExp
  have t3 := nd_ArithmCmd_ArithmExp
  have t4 := nd_ArithmCmd_ArithmCmd
  have hcs := hs.2.2.2.2
  have zs := hs.lt
  have zd : d < w.heap.size := by have := World.block_lt_of_cell? _ _ hcd; simpa using this
  have HC := Lib.hid hch
  have HS := Lib.hid hs
  have HV := Lib.hid hV
  have HW := Lib.hid hw
  have HD := Lib.hid (And.intro hcd hfd)
  have hdb : d ≠ sb := by omega
  have hdc : d ≠ c := by omega
  clear hch hs hV hw
  go_enter Try.func18, Try.ntmps18
  go_wp2_with fail
  refine (rp_any sb c lo _ _ k false _ HS.out HC.out (as_ArithmExpr_Word_ParenArithm _)).mono ?_
  rintro e w1 ⟨rfl, hS1, hG1⟩
  have HS1 := Lib.hid hS1
  have HG1 := Lib.hid hG1
  have c1 := gcell hG1 HD.out.1 hdb
  have f1 := (gfree hG1 zd hdb).trans HD.out.2
  have z1 := hG1.size
  have zd1 : d < w1.heap.size := by omega
  clear hS1 hG1 hcd hfd
  have HS2 := Lib.hid (HS1.out.set (o := 5) (v := .iface 42 (.pointer (some ⟨W, 0, none⟩))) hdb hdc)
  have HV2 := Lib.hid (show Below V.heap.size V (w1.setCell ⟨d, 5, none⟩ (.iface 42 (.pointer (some ⟨W, 0, none⟩)))) from (far_from HV.out HG1.out (by omega)).setCell (p := ⟨d, 5, none⟩) (by show V.heap.size ≤ d; omega) _)
  go_wp2_with fail
  refine (isp_any sb c W l I _ V _ HW.out HV2.out HS2.out (by omega)).mono ?_
  rintro e w2 ⟨N, rfl, hS3, hG3, hN⟩
  have HS3 := Lib.hid hS3
  have HG3 := Lib.hid hG3
  have HN := Lib.hid hN
  have c2 := gcell hG3 (show (w1.setCell ⟨d, 5, none⟩ (.iface 42 (.pointer (some ⟨W, 0, none⟩)))).cell? ⟨d, 5, none⟩ = some (.iface 42 (.pointer (some ⟨W, 0, none⟩))) by simp [go_sem, c1]) hdb
  have f2 := (gfree (o := 5) hG3 (by simpa using zd1) hdb).trans (show (w1.setCell ⟨d, 5, none⟩ (.iface 42 (.pointer (some ⟨W, 0, none⟩)))).frozen? ⟨d, 5, none⟩ = false by simp [go_sem, f1])
  have z2 := hG3.size
  simp at z2
  have zd2 : d < w2.heap.size := by omega
  clear hS3 hG3 hN c1 f1
  go_wp2_with fail
  refine bodyPost_end (v := .tuple #[]) (by simp [results, Try.results18]) rfl ⟨rfl, N, by simp [go_sem, c2], HS3.out.set hdb hdc, ?_, (far_from HV2.out HG3.out (by omega)).setCell (p := ⟨d, 5, none⟩) (by show V.heap.size ≤ d; omega) _⟩
  refine NewW.low (NewW.keep HN.out (fun b hb _ => ?_)) (by simp; omega)
  simp at hb
  exact Below.heap_setCell _ _ _ _ (fun e => by simp at e; omega)
set_option maxRecDepth 1000000 in
set_option maxHeartbeats 4000000 in
theorem vis_binw (sb c W l d Y gy ly : Nat) (x : Value) (I : Bool) (V w : World) (hw : WordIs V W l I) (hV : Below V.heap.size V w) (hVc : V.heap.size ≤ c) (hs : Simp w sb c false) (hd : sb < d) (hcd : w.cell? ⟨d, 3, none⟩ = some (.iface 42 (.pointer (some ⟨W, 0, none⟩)))) (hfd : w.frozen? ⟨d, 3, none⟩ = false) (hcy : w.cell? ⟨d, 4, none⟩ = some (.iface 42 (.pointer (some ⟨Y, 0, none⟩)))) (hfy : w.frozen? ⟨d, 4, none⟩ = false)
    (cY : w.cell? ⟨Y, 0, none⟩ = some (.slice (some ⟨gy, 0, none⟩) 1 1)) (cG : w.cell? ⟨gy, 0, none⟩ = some (.iface 24 (.pointer (some ⟨ly, 0, none⟩)))) (hY : sb < Y ∧ Y ≠ d) (hG : sb < gy ∧ gy ≠ d) :
    Calls Try.prog 18 #[.pointer (some ⟨sb, 0, none⟩), .iface 60 (.pointer (some ⟨d, 0, none⟩))] w (fun e w' => VPost V sb c w.heap.size W l d 3 I I e w' ∧ w'.cell? ⟨d, 4, none⟩ = some (.iface 42 (.pointer (some ⟨Y, 0, none⟩)))) := by
  have t0 := nd_BinaryArithm_Assign
  have t1 := nd_BinaryArithm_ArrayElem
  have t2 := nd_BinaryArithm_ParamExp
  have t3 := nd_BinaryArithm_ArithmExp
  have t4 := nd_BinaryArithm_ArithmCmd
  have t5 := nd_BinaryArithm_ParenArithm
  have t6 := nd_BinaryArithm_BinaryArithm
  have hcs := hs.2.2.2.2
  have zs := hs.lt
  have k1 := hs.2.1
  have zd : d < w.heap.size := by have := World.block_lt_of_cell? _ _ hcd; simpa using this
  have zY : Y < w.heap.size := by have := World.block_lt_of_cell? _ _ cY; simpa using this
  have zG : gy < w.heap.size := by have := World.block_lt_of_cell? _ _ cG; simpa using this
  have HS := Lib.hid hs
  have HV := Lib.hid hV
  have HY := Lib.hid (And.intro cY cG)
  have HD := Lib.hid (And.intro (And.intro hcd hfd) (And.intro hcy hfy))
  have hdb : d ≠ sb := by omega
  have hdc : d ≠ c := by omega
  clear hs hV cY cG
  have HW := Lib.hid hw
  clear hw
  go_enter Try.func18, Try.ntmps18
  go_wp2_with (first | (at_lookup; (refine wpList_lookup_empty _ rfl _ _ 83 rfl Try.underlying83 Try.underlying34 ptr_Binary rfl (HS.out.2.2.2.1) rfl (zero_bool _) ?_)))
  refine (isp_any sb c W l I _ V _ HW.out HV.out HS.out (by omega)).mono ?_
  rintro e w1 ⟨N, rfl, hS1, hG1, hN⟩
  have HN := Lib.hid hN
  clear hN
  have HS1 := Lib.hid hS1
  have HG1 := Lib.hid hG1
  have c1 := gcell hG1 HD.out.1.1 hdb
  have f1 := (gfree (o := 3) hG1 zd hdb).trans HD.out.1.2
  have c4 := gcell hG1 HD.out.2.1 hdb
  have f4 := (gfree (o := 4) hG1 zd hdb).trans HD.out.2.2
  have HY1 := Lib.hid (And.intro (gcell hG1 HY.out.1 (by omega)) (gcell hG1 HY.out.2 (by omega)))
  have z1 := hG1.size
  have zd1 : d < w1.heap.size := by omega
  have hVf := far_from HV.out HG1.out (by omega)
  have HVF := Lib.hid hVf
  have HS2 := Lib.hid (HS1.out.set (o := 3) (v := (.iface 42 (.pointer (some ⟨N, 0, none⟩)))) hdb hdc)
  have HV2 := Lib.hid (show Below V.heap.size V (w1.setCell ⟨d, 3, none⟩ (.iface 42 (.pointer (some ⟨N, 0, none⟩)))) from hVf.setCell (p := ⟨d, 3, none⟩) (by show V.heap.size ≤ d; omega) _)
  have HST := Lib.hid (show StillW (w1.setCell ⟨d, 3, none⟩ (.iface 42 (.pointer (some ⟨N, 0, none⟩)))) Y from ⟨gy, 1, by rw [World.cell?_setCell_other _ _ _ _ (fun e => by injection e with e; omega)]; exact HY1.out.1, by omega, fun _ => ⟨_, by rw [World.cell?_setCell_other _ _ _ _ (fun e => by injection e with e; omega)]; exact HY1.out.2, .inl ⟨ly, rfl⟩⟩⟩)
  clear hS1 hG1 hcd hfd hcy hfy k1 hVf
  go_wp2_with fail
  refine (isp_still sb Y _ HST.out).mono ?_
  rintro e w2 ⟨rfl, hb2⟩
  have HB2 := Lib.hid hb2
  have c2 := cell_below hb2 (show (w1.setCell ⟨d, 3, none⟩ (.iface 42 (.pointer (some ⟨N, 0, none⟩)))).cell? ⟨d, 3, none⟩ = some (.iface 42 (.pointer (some ⟨N, 0, none⟩))) by simp [go_sem, c1])
  have c5 := cell_below hb2 (show (w1.setCell ⟨d, 3, none⟩ (.iface 42 (.pointer (some ⟨N, 0, none⟩)))).cell? ⟨d, 4, none⟩ = some (.iface 42 (.pointer (some ⟨Y, 0, none⟩))) by simp [go_sem, c4])
  have f5 : w2.frozen? ⟨d, 4, none⟩ = false := by rw [hb2.frozen (p := ⟨d, 4, none⟩) (by simpa using zd1)]; simp [go_sem, f4]
  have z2 := hb2.size
  simp at z2
  have zd2 : d < w2.heap.size := by omega
  clear hb2 c1 f1 c4 f4
  go_wp2_with fail
  refine bodyPost_end (v := .tuple #[]) (by simp [results, Try.results18]) rfl ⟨⟨rfl, N, by simp [go_sem, c2], ?_, ?_, (below_next HV2.out HB2.out).setCell (p := ⟨d, 4, none⟩) (by show V.heap.size ≤ d; omega) _⟩, by simp [go_sem, c5]⟩
  · have h := (HS2.out.below HB2.out).set (o := 4) (v := .iface 42 (.pointer (some ⟨Y, 0, none⟩))) hdb hdc
    simpa using h
  · refine NewW.keep HN.out (fun b hb hbz => ?_)
    rw [Below.heap_setCell _ _ _ _ (fun e => by simp at e; omega), HB2.out.5 b (by simpa using hbz), Below.heap_setCell _ _ _ _ (fun e => by simp at e; omega)]
set_option maxRecDepth 1000000 in
set_option maxHeartbeats 4000000 in
theorem vis_binp (sb c W l d Y gy ly : Nat) (x : Value) (I : Bool) (V w : World) (hx : ∃ b, x = .iface 48 (.pointer (some ⟨b, 0, none⟩))) (hV : Below V.heap.size V w) (hVc : V.heap.size ≤ c) (hs : Simp w sb c false) (hd : sb < d) (hcd : w.cell? ⟨d, 3, none⟩ = some x) (hfd : w.frozen? ⟨d, 3, none⟩ = false) (hcy : w.cell? ⟨d, 4, none⟩ = some (.iface 42 (.pointer (some ⟨Y, 0, none⟩)))) (hfy : w.frozen? ⟨d, 4, none⟩ = false)
    (cY : w.cell? ⟨Y, 0, none⟩ = some (.slice (some ⟨gy, 0, none⟩) 1 1)) (cG : w.cell? ⟨gy, 0, none⟩ = some (.iface 24 (.pointer (some ⟨ly, 0, none⟩)))) (hY : sb < Y ∧ Y ≠ d) (hG : sb < gy ∧ gy ≠ d) :
    Calls Try.prog 18 #[.pointer (some ⟨sb, 0, none⟩), .iface 60 (.pointer (some ⟨d, 0, none⟩))] w (fun e w' => e = .returned (.tuple #[]) ∧ w'.cell? ⟨d, 3, none⟩ = some x ∧ Simp w' sb c false ∧ Below V.heap.size V w' ∧ w'.cell? ⟨d, 4, none⟩ = some (.iface 42 (.pointer (some ⟨Y, 0, none⟩)))) := by
  have t0 := nd_BinaryArithm_Assign
  have t1 := nd_BinaryArithm_ArrayElem
  have t2 := nd_BinaryArithm_ParamExp
  have t3 := nd_BinaryArithm_ArithmExp
  have t4 := nd_BinaryArithm_ArithmCmd
  have t5 := nd_BinaryArithm_ParenArithm
  have t6 := nd_BinaryArithm_BinaryArithm
  have hcs := hs.2.2.2.2
  have zs := hs.lt
  have k1 := hs.2.1
  have zd : d < w.heap.size := by have := World.block_lt_of_cell? _ _ hcd; simpa using this
  have zY : Y < w.heap.size := by have := World.block_lt_of_cell? _ _ cY; simpa using this
  have zG : gy < w.heap.size := by have := World.block_lt_of_cell? _ _ cG; simpa using this
  have HS := Lib.hid hs
  have HV := Lib.hid hV
  have HY := Lib.hid (And.intro cY cG)
  have HD := Lib.hid (And.intro (And.intro hcd hfd) (And.intro hcy hfy))
  have hdb : d ≠ sb := by omega
  have hdc : d ≠ c := by omega
  clear hs hV cY cG
  obtain ⟨bx, rfl⟩ := hx
  go_enter Try.func18, Try.ntmps18
  go_wp2_with (first | (at_lookup; (refine wpList_lookup_empty _ rfl _ _ 83 rfl Try.underlying83 Try.underlying34 ptr_Binary rfl (HS.out.2.2.2.1) rfl (zero_bool _) ?_)))
  refine (isp_no sb _ _ (as_ArithmExpr_ParenArithm_Word _)).mono ?_
  rintro e w1 ⟨rfl, rfl⟩
  have hG1 := World.grownBy.refl w (some sb)
  have hS1 := HS.out
  have HS1 := Lib.hid hS1
  have HG1 := Lib.hid hG1
  have c1 := gcell hG1 HD.out.1.1 hdb
  have f1 := (gfree (o := 3) hG1 zd hdb).trans HD.out.1.2
  have c4 := gcell hG1 HD.out.2.1 hdb
  have f4 := (gfree (o := 4) hG1 zd hdb).trans HD.out.2.2
  have HY1 := Lib.hid (And.intro (gcell hG1 HY.out.1 (by omega)) (gcell hG1 HY.out.2 (by omega)))
  have z1 := hG1.size
  have zd1 : d < w.heap.size := by omega
  have hVf := far_from HV.out HG1.out (by omega)
  have HVF := Lib.hid hVf
  have HS2 := Lib.hid (HS1.out.set (o := 3) (v := (.iface 48 (.pointer (some ⟨bx, 0, none⟩)))) hdb hdc)
  have HV2 := Lib.hid (show Below V.heap.size V (w.setCell ⟨d, 3, none⟩ (.iface 48 (.pointer (some ⟨bx, 0, none⟩)))) from hVf.setCell (p := ⟨d, 3, none⟩) (by show V.heap.size ≤ d; omega) _)
  have HST := Lib.hid (show StillW (w.setCell ⟨d, 3, none⟩ (.iface 48 (.pointer (some ⟨bx, 0, none⟩)))) Y from ⟨gy, 1, by rw [World.cell?_setCell_other _ _ _ _ (fun e => by injection e with e; omega)]; exact HY1.out.1, by omega, fun _ => ⟨_, by rw [World.cell?_setCell_other _ _ _ _ (fun e => by injection e with e; omega)]; exact HY1.out.2, .inl ⟨ly, rfl⟩⟩⟩)
  clear hS1 hG1 hcd hfd hcy hfy k1 hVf
  go_wp2_with fail
  refine (isp_still sb Y _ HST.out).mono ?_
  rintro e w2 ⟨rfl, hb2⟩
  have HB2 := Lib.hid hb2
  have c2 := cell_below hb2 (show (w.setCell ⟨d, 3, none⟩ (.iface 48 (.pointer (some ⟨bx, 0, none⟩)))).cell? ⟨d, 3, none⟩ = some (.iface 48 (.pointer (some ⟨bx, 0, none⟩))) by simp [go_sem, c1])
  have c5 := cell_below hb2 (show (w.setCell ⟨d, 3, none⟩ (.iface 48 (.pointer (some ⟨bx, 0, none⟩)))).cell? ⟨d, 4, none⟩ = some (.iface 42 (.pointer (some ⟨Y, 0, none⟩))) by simp [go_sem, c4])
  have f5 : w2.frozen? ⟨d, 4, none⟩ = false := by rw [hb2.frozen (p := ⟨d, 4, none⟩) (by simpa using zd1)]; simp [go_sem, f4]
  have z2 := hb2.size
  simp at z2
  have zd2 : d < w2.heap.size := by omega
  clear hb2 c1 f1 c4 f4
  go_wp2_with fail
  refine bodyPost_end (v := .tuple #[]) (by simp [results, Try.results18]) rfl ⟨rfl, by simp [go_sem, c2], ?_, (below_next HV2.out HB2.out).setCell (p := ⟨d, 4, none⟩) (by show V.heap.size ≤ d; omega) _, by simp [go_sem, c5]⟩
  exact (HS2.out.below HB2.out).set (o := 4) (v := .iface 42 (.pointer (some ⟨Y, 0, none⟩))) hdb hdc
theorem rp_no (sb : Nat) (x : Value) (w : World) (h : ∀ W : World, (Instr.typeAssert x 34 48 true).run Try.prog W = .ok (.tuple #[.pointer none, .bool false]) W) :
    Calls Try.prog 20 #[.pointer (some ⟨sb, 0, none⟩), x] w fun e w' => e = .returned x ∧ w = w' := by
  go_enter Try.func20, Try.ntmps20
  go_wp2_with fail
  go_loopg [1] 0 (fun j xv wr => j = 0 ∧ xv = x ∧ wr = w)
  case atStart => exact ⟨rfl, rfl, rfl⟩
  case round =>
    obtain ⟨rfl, rfl, rfl⟩ := hrel
    go_wp2_with fail
    go_ret
    exact ⟨rfl, rfl⟩
theorem mi_nil (sb : Nat) (w : World) : Calls Try.prog 19 #[.pointer (some ⟨sb, 0, none⟩), .nilIface] w fun e w' => e = .returned (.tuple #[]) ∧ w = w' := by
  have t1 := as_ArithmExpr_nil_BinaryArithm
  have t2 := as_ArithmExpr_nil_ParenArithm
  have t3 := as_ArithmExpr_nil_UnaryArithm
  go_enter Try.func19, Try.ntmps19
  go_wp2_with fail
  exact bodyPost_end (v := .tuple #[]) (by simp [results, Try.results19]) rfl ⟨rfl, rfl⟩
theorem wp_gen {P : Program} {c : Code} {Q : Exit → Act → World → Prop} {a : Act} {W : World} (R : World → Prop) (h : R W) (k : ∀ W', R W' → c.wp P Q a W') : c.wp P Q a W := k W h
theorem run_gen {P : Program} {c : Code} {Q : Exit → Act → World → Prop} {a : Act} {W : World} (R : World → Prop) (h : R W) (k : ∀ W', R W' → c.wp P Q a W') : c.wp P Q a W := k W h
/-- the expansion d and its slice s, as the method goes on: x stands in the first place -/
def PS (V : World) (lo sb c d s : Nat) (m : Bool) (x : Value) (U : World) : Prop :=
  Simp U sb c m ∧ (U.cell? ⟨d, 15, none⟩ = some .nilIface ∧ U.cell? ⟨d, 17, none⟩ = some (.pointer (some ⟨s, 0, none⟩))) ∧ (U.cell? ⟨s, 0, none⟩ = some x ∧ U.frozen? ⟨s, 0, none⟩ = false) ∧ (U.cell? ⟨s, 1, none⟩ = some .nilIface ∧ U.frozen? ⟨s, 1, none⟩ = false) ∧ Below V.heap.size V U ∧ lo ≤ U.heap.size ∧ V.heap.size ≤ c ∧ sb < d ∧ sb < s ∧ s ≠ d
theorem PS.keep {V U U' : World} {lo sb c d s : Nat} {m : Bool} {x : Value} (h : PS V lo sb c d s m x U) (hb : U'.heap[sb]? = U.heap[sb]?) (hc : U'.heap[c]? = U.heap[c]?) (hd : U'.heap[d]? = U.heap[d]?) (hs : U'.heap[s]? = U.heap[s]?) (hV : Below V.heap.size V U') (hl : lo ≤ U'.heap.size) : PS V lo sb c d s m x U' := by
  obtain ⟨h1, ⟨h2, h3⟩, ⟨h4, h5⟩, ⟨h6, h7⟩, _, _, h8⟩ := h
  exact ⟨h1.keep hb hc, ⟨by rw [World.cell?_of_block (w := U) hd]; exact h2, by rw [World.cell?_of_block (w := U) hd]; exact h3⟩, ⟨by rw [World.cell?_of_block (w := U) hs]; exact h4, by rw [World.frozen?_of_block (w := U) hs]; exact h5⟩, ⟨by rw [World.cell?_of_block (w := U) hs]; exact h6, by rw [World.frozen?_of_block (w := U) hs]; exact h7⟩, hV, hl, h8⟩
theorem PS.lt {V U : World} {lo sb c d s : Nat} {m : Bool} {x : Value} (h : PS V lo sb c d s m x U) : d < U.heap.size ∧ s < U.heap.size ∧ sb < U.heap.size ∧ c < sb := by
  have h1 := World.block_lt_of_cell? _ _ h.2.1.1
  have h2 := World.block_lt_of_cell? _ _ h.2.2.1.1
  exact ⟨by simpa using h1, by simpa using h2, h.1.lt, h.1.2.2.2.2⟩
theorem PS.below {V U U' : World} {lo sb c d s : Nat} {m : Bool} {x : Value} (h : PS V lo sb c d s m x U) (hb : Below U.heap.size U U') : PS V lo sb c d s m x U' := by
  obtain ⟨z1, z2, z3, z4⟩ := h.lt
  have z5 := hb.size
  have z6 := h.2.2.2.2.2.1
  exact h.keep (hb.5 _ z3) (hb.5 _ (by omega)) (hb.5 _ z1) (hb.5 _ z2) (below_next h.2.2.2.2.1 hb) (by omega)
theorem PS.only {V U U' : World} {lo sb c d s : Nat} {m m' : Bool} {x : Value} (h : PS V lo sb c d s m x U) (hg : U.grownBy U' (some sb)) (hS : Simp U' sb c m') : PS V lo sb c d s m' x U' := by
  obtain ⟨z1, z2, z3, z4⟩ := h.lt
  obtain ⟨h1, ⟨h2, h3⟩, ⟨h4, h5⟩, ⟨h6, h7⟩, hV, hl, hc, hd, hs, hne⟩ := h
  have z5 := hg.size
  exact ⟨hS, ⟨gcell hg h2 (by omega), gcell hg h3 (by omega)⟩, ⟨gcell hg h4 (by omega), (gfree hg z2 (by omega)).trans h5⟩, ⟨gcell hg h6 (by omega), (gfree hg z2 (by omega)).trans h7⟩, far_from hV hg (by omega), by omega, hc, hd, hs, hne⟩
theorem PS.set0 {V U : World} {lo sb c d s : Nat} {m : Bool} {x y : Value} (h : PS V lo sb c d s m x U) : PS V lo sb c d s m y (U.setCell ⟨s, 0, none⟩ y) := by
  obtain ⟨z1, z2, z3, z4⟩ := h.lt
  obtain ⟨h1, ⟨h2, h3⟩, ⟨h4, h5⟩, ⟨h6, h7⟩, hV, hl, hc, hd, hs, hne⟩ := h
  have hne' : ¬ d = s := fun e => hne e.symm
  exact ⟨h1.set (by omega) (by omega), ⟨by simp [go_sem, h2, hne, hne'], by simp [go_sem, h3, hne, hne']⟩, ⟨by simp [go_sem, h4], by simp [go_sem, h5]⟩, ⟨by simp [go_sem, h6], by simp [go_sem, h7]⟩, hV.setCell (p := ⟨s, 0, none⟩) (by show V.heap.size ≤ s; omega) _, by simpa using hl, hc, hd, hs, hne⟩
theorem PS.set1 {V U : World} {lo sb c d s : Nat} {m : Bool} {x : Value} (h : PS V lo sb c d s m x U) : PS V lo sb c d s m x (U.setCell ⟨s, 1, none⟩ .nilIface) := by
  obtain ⟨z1, z2, z3, z4⟩ := h.lt
  obtain ⟨h1, ⟨h2, h3⟩, ⟨h4, h5⟩, ⟨h6, h7⟩, hV, hl, hc, hd, hs, hne⟩ := h
  have hne' : ¬ d = s := fun e => hne e.symm
  exact ⟨h1.set (by omega) (by omega), ⟨by simp [go_sem, h2, hne, hne'], by simp [go_sem, h3, hne, hne']⟩, ⟨by simp [go_sem, h4], by simp [go_sem, h5]⟩, ⟨by simp [go_sem, h6], by simp [go_sem, h7]⟩, hV.setCell (p := ⟨s, 1, none⟩) (by show V.heap.size ≤ s; omega) _, by simpa using hl, hc, hd, hs, hne⟩
theorem PS.set15 {V U : World} {lo sb c d s : Nat} {m : Bool} {x : Value} (h : PS V lo sb c d s m x U) : PS V lo sb c d s m x (U.setCell ⟨d, 15, none⟩ .nilIface) := by
  obtain ⟨z1, z2, z3, z4⟩ := h.lt
  obtain ⟨h1, ⟨h2, h3⟩, ⟨h4, h5⟩, ⟨h6, h7⟩, hV, hl, hc, hd, hs, hne⟩ := h
  have hne' : ¬ d = s := fun e => hne e.symm
  exact ⟨h1.set (by omega) (by omega), ⟨by simp [go_sem, h2], by simp [go_sem, h3]⟩, ⟨by simp [go_sem, h4, hne, hne'], by simp [go_sem, h5, hne, hne']⟩, ⟨by simp [go_sem, h6, hne, hne'], by simp [go_sem, h7, hne, hne']⟩, hV.setCell (p := ⟨d, 15, none⟩) (by show V.heap.size ≤ d; omega) _, by simpa using hl, hc, hd, hs, hne⟩
end Go.Proofs.Ytgeaokgcmhkoaaa
