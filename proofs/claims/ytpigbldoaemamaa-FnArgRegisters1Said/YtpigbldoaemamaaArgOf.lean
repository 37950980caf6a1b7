/- The contracts of impl.argOf (an argument as plain data), one for each kind of argument. -/
import Derived.Test.YtpigbldoaemamaaQuiet
import Derived.StillTailTactics
namespace Go.Proofs.Ytpigbldoaemamaa
open Go.ChangeShapes Go.WideShapes Go.ChangeAt Go.RowKit
set_option linter.unusedVariables false
abbrev arg8 (k r n s c m g i : Int) : Value := .agg #[.int .i64 k, .int .i64 r, .int .i64 n, .int .i64 s, .int .i64 c, .int .i64 m, .int .i64 g, .int .i64 i]
abbrev argB (k r n s c m g i : Int) : Obj := .cells #[.int .i64 k, .int .i64 r, .int .i64 n, .int .i64 s, .int .i64 c, .int .i64 m, .int .i64 g, .int .i64 i] 24
theorem taReg_Reg (v : Value) (w : World) : (Instr.typeAssert (.iface 36 v) 34 36 true).run Try.prog w = .ok (.tuple #[v, .bool true]) w := by kernel_rfl
theorem taImm_Reg (v : Value) (w : World) : (Instr.typeAssert (.iface 37 v) 34 36 true).run Try.prog w = .ok (.tuple #[.int .u8 0, .bool false]) w := by kernel_rfl
theorem taImm_Imm (v : Value) (w : World) : (Instr.typeAssert (.iface 37 v) 34 37 true).run Try.prog w = .ok (.tuple #[v, .bool true]) w := by kernel_rfl
theorem taImmAlt_Reg (v : Value) (w : World) : (Instr.typeAssert (.iface 39 v) 34 36 true).run Try.prog w = .ok (.tuple #[.int .u8 0, .bool false]) w := by kernel_rfl
theorem taImmAlt_Imm (v : Value) (w : World) : (Instr.typeAssert (.iface 39 v) 34 37 true).run Try.prog w = .ok (.tuple #[.int .u32 0, .bool false]) w := by kernel_rfl
theorem taImmAlt_ImmAlt (v : Value) (w : World) : (Instr.typeAssert (.iface 39 v) 34 39 true).run Try.prog w = .ok (.tuple #[v, .bool true]) w := by kernel_rfl
theorem taRegShift_Reg (v : Value) (w : World) : (Instr.typeAssert (.iface 43 v) 34 36 true).run Try.prog w = .ok (.tuple #[.int .u8 0, .bool false]) w := by kernel_rfl
theorem taRegShift_Imm (v : Value) (w : World) : (Instr.typeAssert (.iface 43 v) 34 37 true).run Try.prog w = .ok (.tuple #[.int .u32 0, .bool false]) w := by kernel_rfl
theorem taRegShift_ImmAlt (v : Value) (w : World) : (Instr.typeAssert (.iface 43 v) 34 39 true).run Try.prog w = .ok (.tuple #[.agg #[.int .u8 0, .int .u8 0], .bool false]) w := by kernel_rfl
theorem taRegShift_RegShift (v : Value) (w : World) : (Instr.typeAssert (.iface 43 v) 34 43 true).run Try.prog w = .ok (.tuple #[v, .bool true]) w := by kernel_rfl
theorem taRegShiftReg_Reg (v : Value) (w : World) : (Instr.typeAssert (.iface 45 v) 34 36 true).run Try.prog w = .ok (.tuple #[.int .u8 0, .bool false]) w := by kernel_rfl
theorem taRegShiftReg_Imm (v : Value) (w : World) : (Instr.typeAssert (.iface 45 v) 34 37 true).run Try.prog w = .ok (.tuple #[.int .u32 0, .bool false]) w := by kernel_rfl
theorem taRegShiftReg_ImmAlt (v : Value) (w : World) : (Instr.typeAssert (.iface 45 v) 34 39 true).run Try.prog w = .ok (.tuple #[.agg #[.int .u8 0, .int .u8 0], .bool false]) w := by kernel_rfl
theorem taRegShiftReg_RegShift (v : Value) (w : World) : (Instr.typeAssert (.iface 45 v) 34 43 true).run Try.prog w = .ok (.tuple #[.agg #[.int .u8 0, .int .u8 0, .int .u8 0], .bool false]) w := by kernel_rfl
theorem taRegShiftReg_RegShiftReg (v : Value) (w : World) : (Instr.typeAssert (.iface 45 v) 34 45 true).run Try.prog w = .ok (.tuple #[v, .bool true]) w := by kernel_rfl
theorem taMem_Reg (v : Value) (w : World) : (Instr.typeAssert (.iface 50 v) 34 36 true).run Try.prog w = .ok (.tuple #[.int .u8 0, .bool false]) w := by kernel_rfl
theorem taMem_Imm (v : Value) (w : World) : (Instr.typeAssert (.iface 50 v) 34 37 true).run Try.prog w = .ok (.tuple #[.int .u32 0, .bool false]) w := by kernel_rfl
theorem taMem_ImmAlt (v : Value) (w : World) : (Instr.typeAssert (.iface 50 v) 34 39 true).run Try.prog w = .ok (.tuple #[.agg #[.int .u8 0, .int .u8 0], .bool false]) w := by kernel_rfl
theorem taMem_RegShift (v : Value) (w : World) : (Instr.typeAssert (.iface 50 v) 34 43 true).run Try.prog w = .ok (.tuple #[.agg #[.int .u8 0, .int .u8 0, .int .u8 0], .bool false]) w := by kernel_rfl
theorem taMem_RegShiftReg (v : Value) (w : World) : (Instr.typeAssert (.iface 50 v) 34 45 true).run Try.prog w = .ok (.tuple #[.agg #[.int .u8 0, .int .u8 0, .int .u8 0], .bool false]) w := by kernel_rfl
theorem taMem_Mem (v : Value) (w : World) : (Instr.typeAssert (.iface 50 v) 34 50 true).run Try.prog w = .ok (.tuple #[v, .bool true]) w := by kernel_rfl
theorem taPCRel_Reg (v : Value) (w : World) : (Instr.typeAssert (.iface 52 v) 34 36 true).run Try.prog w = .ok (.tuple #[.int .u8 0, .bool false]) w := by kernel_rfl
theorem taPCRel_Imm (v : Value) (w : World) : (Instr.typeAssert (.iface 52 v) 34 37 true).run Try.prog w = .ok (.tuple #[.int .u32 0, .bool false]) w := by kernel_rfl
theorem taPCRel_ImmAlt (v : Value) (w : World) : (Instr.typeAssert (.iface 52 v) 34 39 true).run Try.prog w = .ok (.tuple #[.agg #[.int .u8 0, .int .u8 0], .bool false]) w := by kernel_rfl
theorem taPCRel_RegShift (v : Value) (w : World) : (Instr.typeAssert (.iface 52 v) 34 43 true).run Try.prog w = .ok (.tuple #[.agg #[.int .u8 0, .int .u8 0, .int .u8 0], .bool false]) w := by kernel_rfl
theorem taPCRel_RegShiftReg (v : Value) (w : World) : (Instr.typeAssert (.iface 52 v) 34 45 true).run Try.prog w = .ok (.tuple #[.agg #[.int .u8 0, .int .u8 0, .int .u8 0], .bool false]) w := by kernel_rfl
theorem taPCRel_Mem (v : Value) (w : World) : (Instr.typeAssert (.iface 52 v) 34 50 true).run Try.prog w = .ok (.tuple #[.agg #[.int .u8 0, .int .u8 0, .int .i8 0, .int .u8 0, .int .u8 0, .int .u8 0, .int .i16 0], .bool false]) w := by kernel_rfl
theorem taPCRel_PCRel (v : Value) (w : World) : (Instr.typeAssert (.iface 52 v) 34 52 true).run Try.prog w = .ok (.tuple #[v, .bool true]) w := by kernel_rfl
theorem taRegList_Reg (v : Value) (w : World) : (Instr.typeAssert (.iface 54 v) 34 36 true).run Try.prog w = .ok (.tuple #[.int .u8 0, .bool false]) w := by kernel_rfl
theorem taRegList_Imm (v : Value) (w : World) : (Instr.typeAssert (.iface 54 v) 34 37 true).run Try.prog w = .ok (.tuple #[.int .u32 0, .bool false]) w := by kernel_rfl
theorem taRegList_ImmAlt (v : Value) (w : World) : (Instr.typeAssert (.iface 54 v) 34 39 true).run Try.prog w = .ok (.tuple #[.agg #[.int .u8 0, .int .u8 0], .bool false]) w := by kernel_rfl
theorem taRegList_RegShift (v : Value) (w : World) : (Instr.typeAssert (.iface 54 v) 34 43 true).run Try.prog w = .ok (.tuple #[.agg #[.int .u8 0, .int .u8 0, .int .u8 0], .bool false]) w := by kernel_rfl
theorem taRegList_RegShiftReg (v : Value) (w : World) : (Instr.typeAssert (.iface 54 v) 34 45 true).run Try.prog w = .ok (.tuple #[.agg #[.int .u8 0, .int .u8 0, .int .u8 0], .bool false]) w := by kernel_rfl
theorem taRegList_Mem (v : Value) (w : World) : (Instr.typeAssert (.iface 54 v) 34 50 true).run Try.prog w = .ok (.tuple #[.agg #[.int .u8 0, .int .u8 0, .int .i8 0, .int .u8 0, .int .u8 0, .int .u8 0, .int .i16 0], .bool false]) w := by kernel_rfl
theorem taRegList_PCRel (v : Value) (w : World) : (Instr.typeAssert (.iface 54 v) 34 52 true).run Try.prog w = .ok (.tuple #[.int .i32 0, .bool false]) w := by kernel_rfl
theorem taRegList_RegList (v : Value) (w : World) : (Instr.typeAssert (.iface 54 v) 34 54 true).run Try.prog w = .ok (.tuple #[v, .bool true]) w := by kernel_rfl
theorem taEndian_Reg (v : Value) (w : World) : (Instr.typeAssert (.iface 55 v) 34 36 true).run Try.prog w = .ok (.tuple #[.int .u8 0, .bool false]) w := by kernel_rfl
theorem taEndian_Imm (v : Value) (w : World) : (Instr.typeAssert (.iface 55 v) 34 37 true).run Try.prog w = .ok (.tuple #[.int .u32 0, .bool false]) w := by kernel_rfl
theorem taEndian_ImmAlt (v : Value) (w : World) : (Instr.typeAssert (.iface 55 v) 34 39 true).run Try.prog w = .ok (.tuple #[.agg #[.int .u8 0, .int .u8 0], .bool false]) w := by kernel_rfl
theorem taEndian_RegShift (v : Value) (w : World) : (Instr.typeAssert (.iface 55 v) 34 43 true).run Try.prog w = .ok (.tuple #[.agg #[.int .u8 0, .int .u8 0, .int .u8 0], .bool false]) w := by kernel_rfl
theorem taEndian_RegShiftReg (v : Value) (w : World) : (Instr.typeAssert (.iface 55 v) 34 45 true).run Try.prog w = .ok (.tuple #[.agg #[.int .u8 0, .int .u8 0, .int .u8 0], .bool false]) w := by kernel_rfl
theorem taEndian_Mem (v : Value) (w : World) : (Instr.typeAssert (.iface 55 v) 34 50 true).run Try.prog w = .ok (.tuple #[.agg #[.int .u8 0, .int .u8 0, .int .i8 0, .int .u8 0, .int .u8 0, .int .u8 0, .int .i16 0], .bool false]) w := by kernel_rfl
theorem taEndian_PCRel (v : Value) (w : World) : (Instr.typeAssert (.iface 55 v) 34 52 true).run Try.prog w = .ok (.tuple #[.int .i32 0, .bool false]) w := by kernel_rfl
theorem taEndian_RegList (v : Value) (w : World) : (Instr.typeAssert (.iface 55 v) 34 54 true).run Try.prog w = .ok (.tuple #[.int .u16 0, .bool false]) w := by kernel_rfl
theorem taEndian_Endian (v : Value) (w : World) : (Instr.typeAssert (.iface 55 v) 34 55 true).run Try.prog w = .ok (.tuple #[v, .bool true]) w := by kernel_rfl
theorem taRegX_Reg (v : Value) (w : World) : (Instr.typeAssert (.iface 58 v) 34 36 true).run Try.prog w = .ok (.tuple #[.int .u8 0, .bool false]) w := by kernel_rfl
theorem taRegX_Imm (v : Value) (w : World) : (Instr.typeAssert (.iface 58 v) 34 37 true).run Try.prog w = .ok (.tuple #[.int .u32 0, .bool false]) w := by kernel_rfl
theorem taRegX_ImmAlt (v : Value) (w : World) : (Instr.typeAssert (.iface 58 v) 34 39 true).run Try.prog w = .ok (.tuple #[.agg #[.int .u8 0, .int .u8 0], .bool false]) w := by kernel_rfl
theorem taRegX_RegShift (v : Value) (w : World) : (Instr.typeAssert (.iface 58 v) 34 43 true).run Try.prog w = .ok (.tuple #[.agg #[.int .u8 0, .int .u8 0, .int .u8 0], .bool false]) w := by kernel_rfl
theorem taRegX_RegShiftReg (v : Value) (w : World) : (Instr.typeAssert (.iface 58 v) 34 45 true).run Try.prog w = .ok (.tuple #[.agg #[.int .u8 0, .int .u8 0, .int .u8 0], .bool false]) w := by kernel_rfl
theorem taRegX_Mem (v : Value) (w : World) : (Instr.typeAssert (.iface 58 v) 34 50 true).run Try.prog w = .ok (.tuple #[.agg #[.int .u8 0, .int .u8 0, .int .i8 0, .int .u8 0, .int .u8 0, .int .u8 0, .int .i16 0], .bool false]) w := by kernel_rfl
theorem taRegX_PCRel (v : Value) (w : World) : (Instr.typeAssert (.iface 58 v) 34 52 true).run Try.prog w = .ok (.tuple #[.int .i32 0, .bool false]) w := by kernel_rfl
theorem taRegX_RegList (v : Value) (w : World) : (Instr.typeAssert (.iface 58 v) 34 54 true).run Try.prog w = .ok (.tuple #[.int .u16 0, .bool false]) w := by kernel_rfl
theorem taRegX_Endian (v : Value) (w : World) : (Instr.typeAssert (.iface 58 v) 34 55 true).run Try.prog w = .ok (.tuple #[.int .u8 0, .bool false]) w := by kernel_rfl
theorem taRegX_Label (v : Value) (w : World) : (Instr.typeAssert (.iface 58 v) 34 56 true).run Try.prog w = .ok (.tuple #[.int .u32 0, .bool false]) w := by kernel_rfl
theorem taRegX_RegX (v : Value) (w : World) : (Instr.typeAssert (.iface 58 v) 34 58 true).run Try.prog w = .ok (.tuple #[v, .bool true]) w := by kernel_rfl
section
set_option maxHeartbeats 1000000 in
set_option maxRecDepth 100000 in
theorem argOf_nil  (w : World) :
    Calls Try.prog 39 #[.nilIface] w fun e w' => e = .returned (arg8 0 0 0 0 0 0 0 0) ∧ w' = (w.alloc (argB 0 0 0 0 0 0 0 0)) := by
  go_enter Try.func39, Try.ntmps39
  go_wp2
  exact bodyPost_ret (v := arg8 0 0 0 0 0 0 0 0) (by simp [results, Try.results39, go_sem]) rfl ⟨rfl, rfl⟩
end
section
attribute [local go_sem] taReg_Reg
set_option maxHeartbeats 1000000 in
set_option maxRecDepth 100000 in
theorem argOf_reg (n : Int) (hb : 0 ≤ n) (hb' : n ≤ 255) (w : World) :
    Calls Try.prog 39 #[.iface 36 (.int .u8 n)] w fun e w' => e = .returned (arg8 1 n 0 0 0 0 0 0) ∧ w' = (w.alloc (argB 1 n 0 0 0 0 0 0)) := by
  go_enter Try.func39, Try.ntmps39
  go_wp2
  exact bodyPost_ret (v := arg8 1 n 0 0 0 0 0 0) (by simp [results, Try.results39, go_sem]) rfl ⟨rfl, rfl⟩
end
section
attribute [local go_sem] taImm_Reg taImm_Imm
set_option maxHeartbeats 1000000 in
set_option maxRecDepth 100000 in
theorem argOf_imm (n : Int) (hb : 0 ≤ n) (hb' : n ≤ 4294967295) (w : World) :
    Calls Try.prog 39 #[.iface 37 (.int .u32 n)] w fun e w' => e = .returned (arg8 2 0 n 0 0 0 0 0) ∧ w' = (w.alloc (argB 2 0 n 0 0 0 0 0)) := by
  go_enter Try.func39, Try.ntmps39
  go_wp2
  exact bodyPost_ret (v := arg8 2 0 n 0 0 0 0 0) (by simp [results, Try.results39, go_sem]) rfl ⟨rfl, rfl⟩
end
section
attribute [local go_sem] taPCRel_Reg taPCRel_Imm taPCRel_ImmAlt taPCRel_RegShift taPCRel_RegShiftReg taPCRel_Mem taPCRel_PCRel
set_option maxHeartbeats 1000000 in
set_option maxRecDepth 100000 in
theorem argOf_pcrel (n : Int) (hb : -2147483648 ≤ n) (hb' : n ≤ 2147483647) (w : World) :
    Calls Try.prog 39 #[.iface 52 (.int .i32 n)] w fun e w' => e = .returned (arg8 7 0 n 0 0 0 0 0) ∧ w' = (w.alloc (argB 7 0 n 0 0 0 0 0)) := by
  go_enter Try.func39, Try.ntmps39
  go_wp2
  exact bodyPost_ret (v := arg8 7 0 n 0 0 0 0 0) (by simp [results, Try.results39, go_sem]) rfl ⟨rfl, rfl⟩
end
section
attribute [local go_sem] taRegList_Reg taRegList_Imm taRegList_ImmAlt taRegList_RegShift taRegList_RegShiftReg taRegList_Mem taRegList_PCRel taRegList_RegList
set_option maxHeartbeats 1000000 in
set_option maxRecDepth 100000 in
theorem argOf_list (n : Int) (hb : 0 ≤ n) (hb' : n ≤ 65535) (w : World) :
    Calls Try.prog 39 #[.iface 54 (.int .u16 n)] w fun e w' => e = .returned (arg8 8 0 n 0 0 0 0 0) ∧ w' = (w.alloc (argB 8 0 n 0 0 0 0 0)) := by
  go_enter Try.func39, Try.ntmps39
  go_wp2
  exact bodyPost_ret (v := arg8 8 0 n 0 0 0 0 0) (by simp [results, Try.results39, go_sem]) rfl ⟨rfl, rfl⟩
end
section
attribute [local go_sem] taEndian_Reg taEndian_Imm taEndian_ImmAlt taEndian_RegShift taEndian_RegShiftReg taEndian_Mem taEndian_PCRel taEndian_RegList taEndian_Endian
set_option maxHeartbeats 1000000 in
set_option maxRecDepth 100000 in
theorem argOf_endian (n : Int) (hb : 0 ≤ n) (hb' : n ≤ 255) (w : World) :
    Calls Try.prog 39 #[.iface 55 (.int .u8 n)] w fun e w' => e = .returned (arg8 9 0 n 0 0 0 0 0) ∧ w' = (w.alloc (argB 9 0 n 0 0 0 0 0)) := by
  go_enter Try.func39, Try.ntmps39
  go_wp2
  exact bodyPost_ret (v := arg8 9 0 n 0 0 0 0 0) (by simp [results, Try.results39, go_sem]) rfl ⟨rfl, rfl⟩
end
section
attribute [local go_sem] taRegX_Reg taRegX_Imm taRegX_ImmAlt taRegX_RegShift taRegX_RegShiftReg taRegX_Mem taRegX_PCRel taRegX_RegList taRegX_Endian taRegX_Label taRegX_RegX
set_option maxHeartbeats 1000000 in
set_option maxRecDepth 100000 in
theorem argOf_regx (r i : Int) (hb : 0 ≤ r) (hb' : r ≤ 255) (w : World) :
    Calls Try.prog 39 #[.iface 58 (.agg #[.int .u8 r, .int .i64 i])] w fun e w' => e = .returned (arg8 11 r i 0 0 0 0 0) ∧ w' = ((w.alloc (argB 11 r i 0 0 0 0 0)).alloc (.cells #[.int .u8 r, .int .i64 i] 58)) := by
  go_enter Try.func39, Try.ntmps39
  go_wp2
  exact bodyPost_ret (v := arg8 11 r i 0 0 0 0 0) (by simp [results, Try.results39, go_sem]) rfl ⟨rfl, rfl⟩
end
section
attribute [local go_sem] taRegShift_Reg taRegShift_Imm taRegShift_ImmAlt taRegShift_RegShift
set_option maxHeartbeats 1000000 in
set_option maxRecDepth 100000 in
theorem argOf_shift (a b c : Int) (h0 : 0 ≤ a) (h1 : a ≤ 255) (h2 : 0 ≤ b) (h3 : b ≤ 255) (h4 : 0 ≤ c) (h5 : c ≤ 255) (w : World) :
    Calls Try.prog 39 #[.iface 43 (.agg #[.int .u8 a, .int .u8 b, .int .u8 c])] w fun e w' => e = .returned (arg8 4 a 0 b c 0 0 0) ∧ w' = ((w.alloc (argB 4 a 0 b c 0 0 0)).alloc (.cells #[.int .u8 a, .int .u8 b, .int .u8 c] 43)) := by
  go_enter Try.func39, Try.ntmps39
  go_wp2
  exact bodyPost_ret (v := arg8 4 a 0 b c 0 0 0) (by simp [results, Try.results39, go_sem]) rfl ⟨rfl, rfl⟩
end
section
attribute [local go_sem] taRegShiftReg_Reg taRegShiftReg_Imm taRegShiftReg_ImmAlt taRegShiftReg_RegShift taRegShiftReg_RegShiftReg
set_option maxHeartbeats 1000000 in
set_option maxRecDepth 100000 in
theorem argOf_byreg (a b c : Int) (h0 : 0 ≤ a) (h1 : a ≤ 255) (h2 : 0 ≤ b) (h3 : b ≤ 255) (h4 : 0 ≤ c) (h5 : c ≤ 255) (w : World) :
    Calls Try.prog 39 #[.iface 45 (.agg #[.int .u8 a, .int .u8 b, .int .u8 c])] w fun e w' => e = .returned (arg8 5 a 0 b 0 0 0 c) ∧ w' = ((w.alloc (argB 5 a 0 b 0 0 0 c)).alloc (.cells #[.int .u8 a, .int .u8 b, .int .u8 c] 45)) := by
  go_enter Try.func39, Try.ntmps39
  go_wp2
  exact bodyPost_ret (v := arg8 5 a 0 b 0 0 0 c) (by simp [results, Try.results39, go_sem]) rfl ⟨rfl, rfl⟩
end
section
attribute [local go_sem] taImmAlt_Reg taImmAlt_Imm taImmAlt_ImmAlt
set_option maxHeartbeats 1000000 in
set_option maxRecDepth 100000 in
theorem argOf_immalt (a b : Int) (h0 : 0 ≤ a) (h1 : a ≤ 255) (h2 : 0 ≤ b) (h3 : b ≤ 31) (w : World) :
    Calls Try.prog 39 #[.iface 39 (.agg #[.int .u8 a, .int .u8 b])] w fun e w' => e = .returned (arg8 3 0 (turned a b) 0 0 0 0 0) ∧ w' = (((w.alloc (argB 3 0 (turned a b) 0 0 0 0 0)).alloc (.cells #[.int .u8 a, .int .u8 b] 39)).alloc (.cells #[.int .u8 a, .int .u8 b] 39)) := by
  go_enter Try.func39, Try.ntmps39
  go_wp2
  exact bodyPost_ret (v := arg8 3 0 (turned a b) 0 0 0 0 0) (by simp [results, Try.results39, go_sem, turned]) rfl ⟨rfl, rfl⟩
end
set_option maxHeartbeats 1000000 in
theorem modeOf_c (m : Int) (h3 : 1 ≤ m) (h4 : m ≤ 5) (w : World) :
    Calls Try.prog 45 #[.int .u8 m] w fun e w' => e = .returned (.int .i64 m) ∧ w' = w := by
  have hm : m = 1 ∨ m = 2 ∨ m = 3 ∨ m = 4 ∨ m = 5 := by omega
  rcases hm with rfl | rfl | rfl | rfl | rfl
  all_goals
    go_enter Try.func45, Try.ntmps45
    go_wp2
    go_ret
    exact ⟨rfl, rfl⟩
theorem still_tail {P : Program} {id : Nat} {Q : Exit → Act → World → Prop} {a : Act} {w : World} {l : List Oper} (n : Nat) (hm : P.follows .mixedOrders = true) (hB : Region.lexTailB .any l.toArray n = true)
    (h : wpStill P l.toArray w.drew (fun a' => wpList P l.toArray Q (l.drop n) a' w.drew) (l.take n) a) : (Code.region id l.toArray true).wp P Q a w :=
  wp_region_still_tail n hm hB h
set_option maxHeartbeats 1000000 in
set_option maxRecDepth 100000 in
theorem memOf_c (b m g i s c f : Int) (h1 : 0 ≤ b) (h2 : b ≤ 255) (h3 : 1 ≤ m) (h4 : m ≤ 5) (h5 : -128 ≤ g) (h6 : g ≤ 127) (h7 : 0 ≤ i) (h8 : i ≤ 255) (h9 : 0 ≤ s) (h10 : s ≤ 255) (h11 : 0 ≤ c) (h12 : c ≤ 255) (h13 : -32768 ≤ f) (h14 : f ≤ 32767) (w : World) :
    Calls Try.prog 43 #[.agg #[.int .u8 b, .int .u8 m, .int .i8 g, .int .u8 i, .int .u8 s, .int .u8 c, .int .i16 f]] w fun e w' => e = .returned (arg8 6 b f s c m g i) ∧ w' = ((w.alloc (.cells #[.int .u8 b, .int .u8 m, .int .i8 g, .int .u8 i, .int .u8 s, .int .u8 c, .int .i16 f] 50)).alloc (argB 6 b f s c m g i)).drew := by
  go_enter Try.func43, Try.ntmps43
  go_wp2_with fail
  refine still_tail 22 (by kernel_rfl) (by kernel_rfl) ?_
  simp only [List.take_succ_cons, List.take_zero, List.drop_succ_cons, List.drop_zero]
  repeat still_step
  still_call (modeOf_c m h3 h4 _)
  repeat still_step
  refine wpStill_nil ?_
  go_wp2
  exact bodyPost_ret (v := arg8 6 b f s c m g i) (by simp [results, Try.results43, go_sem]) rfl ⟨rfl, rfl⟩
section
attribute [local go_sem] taMem_Reg taMem_Imm taMem_ImmAlt taMem_RegShift taMem_RegShiftReg taMem_Mem
set_option maxHeartbeats 1000000 in
set_option maxRecDepth 100000 in
theorem argOf_mem (b m g i s c f : Int) (h1 : 0 ≤ b) (h2 : b ≤ 255) (h3 : 1 ≤ m) (h4 : m ≤ 5) (h5 : -128 ≤ g) (h6 : g ≤ 127) (h7 : 0 ≤ i) (h8 : i ≤ 255) (h9 : 0 ≤ s) (h10 : s ≤ 255) (h11 : 0 ≤ c) (h12 : c ≤ 255) (h13 : -32768 ≤ f) (h14 : f ≤ 32767) (w : World) :
    Calls Try.prog 39 #[.iface 50 (.agg #[.int .u8 b, .int .u8 m, .int .i8 g, .int .u8 i, .int .u8 s, .int .u8 c, .int .i16 f])] w fun e w' => e = .returned (arg8 6 b f s c m g i) ∧ w' = ((((w.alloc (argB 6 b f s c m g i)).alloc (.cells #[.int .u8 b, .int .u8 m, .int .i8 g, .int .u8 i, .int .u8 s, .int .u8 c, .int .i16 f] 50)).alloc (.cells #[.int .u8 b, .int .u8 m, .int .i8 g, .int .u8 i, .int .u8 s, .int .u8 c, .int .i16 f] 50)).alloc (argB 6 b f s c m g i)).drew := by
  go_enter Try.func39, Try.ntmps39
  go_wp2_with fail
  refine (memOf_c b m g i s c f h1 h2 h3 h4 h5 h6 h7 h8 h9 h10 h11 h12 h13 h14 _).mono ?_
  rintro e w1 ⟨rfl, rfl⟩
  go_wp2
  exact bodyPost_ret (v := arg8 6 b f s c m g i) (by simp [results, Try.results39, go_sem]) rfl ⟨rfl, rfl⟩
end
end Go.Proofs.Ytpigbldoaemamaa
