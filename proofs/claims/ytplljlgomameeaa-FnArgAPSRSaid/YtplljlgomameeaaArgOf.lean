/- The contracts of impl.argOf (an argument as plain data), one for each kind of argument. -/
import Derived.Test.YtplljlgomameeaaQuiet
namespace Go.Proofs.Ytplljlgomameeaa
open Go.ChangeShapes Go.WideShapes Go.ChangeAt Go.RowKit
abbrev arg8 (k r n s c m g i : Int) : Value := .agg #[.int .i64 k, .int .i64 r, .int .i64 n, .int .i64 s, .int .i64 c, .int .i64 m, .int .i64 g, .int .i64 i]
abbrev argB (k r n s c m g i : Int) : Obj := .cells #[.int .i64 k, .int .i64 r, .int .i64 n, .int .i64 s, .int .i64 c, .int .i64 m, .int .i64 g, .int .i64 i] 24
theorem taReg_Reg (v : Value) (w : World) : (Instr.typeAssert (.iface 37 v) 34 37 true).run Try.prog w = .ok (.tuple #[v, .bool true]) w := by kernel_rfl
theorem taImm_Reg (v : Value) (w : World) : (Instr.typeAssert (.iface 38 v) 34 37 true).run Try.prog w = .ok (.tuple #[.int .u8 0, .bool false]) w := by kernel_rfl
theorem taImm_Imm (v : Value) (w : World) : (Instr.typeAssert (.iface 38 v) 34 38 true).run Try.prog w = .ok (.tuple #[v, .bool true]) w := by kernel_rfl
theorem taImmAlt_Reg (v : Value) (w : World) : (Instr.typeAssert (.iface 40 v) 34 37 true).run Try.prog w = .ok (.tuple #[.int .u8 0, .bool false]) w := by kernel_rfl
theorem taImmAlt_Imm (v : Value) (w : World) : (Instr.typeAssert (.iface 40 v) 34 38 true).run Try.prog w = .ok (.tuple #[.int .u32 0, .bool false]) w := by kernel_rfl
theorem taImmAlt_ImmAlt (v : Value) (w : World) : (Instr.typeAssert (.iface 40 v) 34 40 true).run Try.prog w = .ok (.tuple #[v, .bool true]) w := by kernel_rfl
theorem taRegShift_Reg (v : Value) (w : World) : (Instr.typeAssert (.iface 44 v) 34 37 true).run Try.prog w = .ok (.tuple #[.int .u8 0, .bool false]) w := by kernel_rfl
theorem taRegShift_Imm (v : Value) (w : World) : (Instr.typeAssert (.iface 44 v) 34 38 true).run Try.prog w = .ok (.tuple #[.int .u32 0, .bool false]) w := by kernel_rfl
theorem taRegShift_ImmAlt (v : Value) (w : World) : (Instr.typeAssert (.iface 44 v) 34 40 true).run Try.prog w = .ok (.tuple #[.agg #[.int .u8 0, .int .u8 0], .bool false]) w := by kernel_rfl
theorem taRegShift_RegShift (v : Value) (w : World) : (Instr.typeAssert (.iface 44 v) 34 44 true).run Try.prog w = .ok (.tuple #[v, .bool true]) w := by kernel_rfl
theorem taRegShiftReg_Reg (v : Value) (w : World) : (Instr.typeAssert (.iface 46 v) 34 37 true).run Try.prog w = .ok (.tuple #[.int .u8 0, .bool false]) w := by kernel_rfl
theorem taRegShiftReg_Imm (v : Value) (w : World) : (Instr.typeAssert (.iface 46 v) 34 38 true).run Try.prog w = .ok (.tuple #[.int .u32 0, .bool false]) w := by kernel_rfl
theorem taRegShiftReg_ImmAlt (v : Value) (w : World) : (Instr.typeAssert (.iface 46 v) 34 40 true).run Try.prog w = .ok (.tuple #[.agg #[.int .u8 0, .int .u8 0], .bool false]) w := by kernel_rfl
theorem taRegShiftReg_RegShift (v : Value) (w : World) : (Instr.typeAssert (.iface 46 v) 34 44 true).run Try.prog w = .ok (.tuple #[.agg #[.int .u8 0, .int .u8 0, .int .u8 0], .bool false]) w := by kernel_rfl
theorem taRegShiftReg_RegShiftReg (v : Value) (w : World) : (Instr.typeAssert (.iface 46 v) 34 46 true).run Try.prog w = .ok (.tuple #[v, .bool true]) w := by kernel_rfl
theorem taMem_Reg (v : Value) (w : World) : (Instr.typeAssert (.iface 51 v) 34 37 true).run Try.prog w = .ok (.tuple #[.int .u8 0, .bool false]) w := by kernel_rfl
theorem taMem_Imm (v : Value) (w : World) : (Instr.typeAssert (.iface 51 v) 34 38 true).run Try.prog w = .ok (.tuple #[.int .u32 0, .bool false]) w := by kernel_rfl
theorem taMem_ImmAlt (v : Value) (w : World) : (Instr.typeAssert (.iface 51 v) 34 40 true).run Try.prog w = .ok (.tuple #[.agg #[.int .u8 0, .int .u8 0], .bool false]) w := by kernel_rfl
theorem taMem_RegShift (v : Value) (w : World) : (Instr.typeAssert (.iface 51 v) 34 44 true).run Try.prog w = .ok (.tuple #[.agg #[.int .u8 0, .int .u8 0, .int .u8 0], .bool false]) w := by kernel_rfl
theorem taMem_RegShiftReg (v : Value) (w : World) : (Instr.typeAssert (.iface 51 v) 34 46 true).run Try.prog w = .ok (.tuple #[.agg #[.int .u8 0, .int .u8 0, .int .u8 0], .bool false]) w := by kernel_rfl
theorem taMem_Mem (v : Value) (w : World) : (Instr.typeAssert (.iface 51 v) 34 51 true).run Try.prog w = .ok (.tuple #[v, .bool true]) w := by kernel_rfl
theorem taPCRel_Reg (v : Value) (w : World) : (Instr.typeAssert (.iface 53 v) 34 37 true).run Try.prog w = .ok (.tuple #[.int .u8 0, .bool false]) w := by kernel_rfl
theorem taPCRel_Imm (v : Value) (w : World) : (Instr.typeAssert (.iface 53 v) 34 38 true).run Try.prog w = .ok (.tuple #[.int .u32 0, .bool false]) w := by kernel_rfl
theorem taPCRel_ImmAlt (v : Value) (w : World) : (Instr.typeAssert (.iface 53 v) 34 40 true).run Try.prog w = .ok (.tuple #[.agg #[.int .u8 0, .int .u8 0], .bool false]) w := by kernel_rfl
theorem taPCRel_RegShift (v : Value) (w : World) : (Instr.typeAssert (.iface 53 v) 34 44 true).run Try.prog w = .ok (.tuple #[.agg #[.int .u8 0, .int .u8 0, .int .u8 0], .bool false]) w := by kernel_rfl
theorem taPCRel_RegShiftReg (v : Value) (w : World) : (Instr.typeAssert (.iface 53 v) 34 46 true).run Try.prog w = .ok (.tuple #[.agg #[.int .u8 0, .int .u8 0, .int .u8 0], .bool false]) w := by kernel_rfl
theorem taPCRel_Mem (v : Value) (w : World) : (Instr.typeAssert (.iface 53 v) 34 51 true).run Try.prog w = .ok (.tuple #[.agg #[.int .u8 0, .int .u8 0, .int .i8 0, .int .u8 0, .int .u8 0, .int .u8 0, .int .i16 0], .bool false]) w := by kernel_rfl
theorem taPCRel_PCRel (v : Value) (w : World) : (Instr.typeAssert (.iface 53 v) 34 53 true).run Try.prog w = .ok (.tuple #[v, .bool true]) w := by kernel_rfl
theorem taRegList_Reg (v : Value) (w : World) : (Instr.typeAssert (.iface 55 v) 34 37 true).run Try.prog w = .ok (.tuple #[.int .u8 0, .bool false]) w := by kernel_rfl
theorem taRegList_Imm (v : Value) (w : World) : (Instr.typeAssert (.iface 55 v) 34 38 true).run Try.prog w = .ok (.tuple #[.int .u32 0, .bool false]) w := by kernel_rfl
theorem taRegList_ImmAlt (v : Value) (w : World) : (Instr.typeAssert (.iface 55 v) 34 40 true).run Try.prog w = .ok (.tuple #[.agg #[.int .u8 0, .int .u8 0], .bool false]) w := by kernel_rfl
theorem taRegList_RegShift (v : Value) (w : World) : (Instr.typeAssert (.iface 55 v) 34 44 true).run Try.prog w = .ok (.tuple #[.agg #[.int .u8 0, .int .u8 0, .int .u8 0], .bool false]) w := by kernel_rfl
theorem taRegList_RegShiftReg (v : Value) (w : World) : (Instr.typeAssert (.iface 55 v) 34 46 true).run Try.prog w = .ok (.tuple #[.agg #[.int .u8 0, .int .u8 0, .int .u8 0], .bool false]) w := by kernel_rfl
theorem taRegList_Mem (v : Value) (w : World) : (Instr.typeAssert (.iface 55 v) 34 51 true).run Try.prog w = .ok (.tuple #[.agg #[.int .u8 0, .int .u8 0, .int .i8 0, .int .u8 0, .int .u8 0, .int .u8 0, .int .i16 0], .bool false]) w := by kernel_rfl
theorem taRegList_PCRel (v : Value) (w : World) : (Instr.typeAssert (.iface 55 v) 34 53 true).run Try.prog w = .ok (.tuple #[.int .i32 0, .bool false]) w := by kernel_rfl
theorem taRegList_RegList (v : Value) (w : World) : (Instr.typeAssert (.iface 55 v) 34 55 true).run Try.prog w = .ok (.tuple #[v, .bool true]) w := by kernel_rfl
theorem taEndian_Reg (v : Value) (w : World) : (Instr.typeAssert (.iface 56 v) 34 37 true).run Try.prog w = .ok (.tuple #[.int .u8 0, .bool false]) w := by kernel_rfl
theorem taEndian_Imm (v : Value) (w : World) : (Instr.typeAssert (.iface 56 v) 34 38 true).run Try.prog w = .ok (.tuple #[.int .u32 0, .bool false]) w := by kernel_rfl
theorem taEndian_ImmAlt (v : Value) (w : World) : (Instr.typeAssert (.iface 56 v) 34 40 true).run Try.prog w = .ok (.tuple #[.agg #[.int .u8 0, .int .u8 0], .bool false]) w := by kernel_rfl
theorem taEndian_RegShift (v : Value) (w : World) : (Instr.typeAssert (.iface 56 v) 34 44 true).run Try.prog w = .ok (.tuple #[.agg #[.int .u8 0, .int .u8 0, .int .u8 0], .bool false]) w := by kernel_rfl
theorem taEndian_RegShiftReg (v : Value) (w : World) : (Instr.typeAssert (.iface 56 v) 34 46 true).run Try.prog w = .ok (.tuple #[.agg #[.int .u8 0, .int .u8 0, .int .u8 0], .bool false]) w := by kernel_rfl
theorem taEndian_Mem (v : Value) (w : World) : (Instr.typeAssert (.iface 56 v) 34 51 true).run Try.prog w = .ok (.tuple #[.agg #[.int .u8 0, .int .u8 0, .int .i8 0, .int .u8 0, .int .u8 0, .int .u8 0, .int .i16 0], .bool false]) w := by kernel_rfl
theorem taEndian_PCRel (v : Value) (w : World) : (Instr.typeAssert (.iface 56 v) 34 53 true).run Try.prog w = .ok (.tuple #[.int .i32 0, .bool false]) w := by kernel_rfl
theorem taEndian_RegList (v : Value) (w : World) : (Instr.typeAssert (.iface 56 v) 34 55 true).run Try.prog w = .ok (.tuple #[.int .u16 0, .bool false]) w := by kernel_rfl
theorem taEndian_Endian (v : Value) (w : World) : (Instr.typeAssert (.iface 56 v) 34 56 true).run Try.prog w = .ok (.tuple #[v, .bool true]) w := by kernel_rfl
theorem taRegX_Reg (v : Value) (w : World) : (Instr.typeAssert (.iface 59 v) 34 37 true).run Try.prog w = .ok (.tuple #[.int .u8 0, .bool false]) w := by kernel_rfl
theorem taRegX_Imm (v : Value) (w : World) : (Instr.typeAssert (.iface 59 v) 34 38 true).run Try.prog w = .ok (.tuple #[.int .u32 0, .bool false]) w := by kernel_rfl
theorem taRegX_ImmAlt (v : Value) (w : World) : (Instr.typeAssert (.iface 59 v) 34 40 true).run Try.prog w = .ok (.tuple #[.agg #[.int .u8 0, .int .u8 0], .bool false]) w := by kernel_rfl
theorem taRegX_RegShift (v : Value) (w : World) : (Instr.typeAssert (.iface 59 v) 34 44 true).run Try.prog w = .ok (.tuple #[.agg #[.int .u8 0, .int .u8 0, .int .u8 0], .bool false]) w := by kernel_rfl
theorem taRegX_RegShiftReg (v : Value) (w : World) : (Instr.typeAssert (.iface 59 v) 34 46 true).run Try.prog w = .ok (.tuple #[.agg #[.int .u8 0, .int .u8 0, .int .u8 0], .bool false]) w := by kernel_rfl
theorem taRegX_Mem (v : Value) (w : World) : (Instr.typeAssert (.iface 59 v) 34 51 true).run Try.prog w = .ok (.tuple #[.agg #[.int .u8 0, .int .u8 0, .int .i8 0, .int .u8 0, .int .u8 0, .int .u8 0, .int .i16 0], .bool false]) w := by kernel_rfl
theorem taRegX_PCRel (v : Value) (w : World) : (Instr.typeAssert (.iface 59 v) 34 53 true).run Try.prog w = .ok (.tuple #[.int .i32 0, .bool false]) w := by kernel_rfl
theorem taRegX_RegList (v : Value) (w : World) : (Instr.typeAssert (.iface 59 v) 34 55 true).run Try.prog w = .ok (.tuple #[.int .u16 0, .bool false]) w := by kernel_rfl
theorem taRegX_Endian (v : Value) (w : World) : (Instr.typeAssert (.iface 59 v) 34 56 true).run Try.prog w = .ok (.tuple #[.int .u8 0, .bool false]) w := by kernel_rfl
theorem taRegX_Label (v : Value) (w : World) : (Instr.typeAssert (.iface 59 v) 34 57 true).run Try.prog w = .ok (.tuple #[.int .u32 0, .bool false]) w := by kernel_rfl
theorem taRegX_RegX (v : Value) (w : World) : (Instr.typeAssert (.iface 59 v) 34 59 true).run Try.prog w = .ok (.tuple #[v, .bool true]) w := by kernel_rfl
section
set_option maxHeartbeats 1000000 in
set_option maxRecDepth 100000 in
theorem argOf_nil  (w : World) :
    Calls Try.prog 32 #[.nilIface] w fun e w' => e = .returned (arg8 0 0 0 0 0 0 0 0) ∧ w' = (w.alloc (argB 0 0 0 0 0 0 0 0)) := by
  go_enter Try.func32, Try.ntmps32
  go_wp2
  exact bodyPost_ret (v := arg8 0 0 0 0 0 0 0 0) (by simp [results, Try.results32, go_sem]) rfl ⟨rfl, rfl⟩
end
section
attribute [local go_sem] taReg_Reg
set_option maxHeartbeats 1000000 in
set_option maxRecDepth 100000 in
theorem argOf_reg (n : Int) (hb : 0 ≤ n) (hb' : n ≤ 255) (w : World) :
    Calls Try.prog 32 #[.iface 37 (.int .u8 n)] w fun e w' => e = .returned (arg8 1 n 0 0 0 0 0 0) ∧ w' = (w.alloc (argB 1 n 0 0 0 0 0 0)) := by
  go_enter Try.func32, Try.ntmps32
  go_wp2
  exact bodyPost_ret (v := arg8 1 n 0 0 0 0 0 0) (by simp [results, Try.results32, go_sem]) rfl ⟨rfl, rfl⟩
end
section
attribute [local go_sem] taImm_Reg taImm_Imm
set_option maxHeartbeats 1000000 in
set_option maxRecDepth 100000 in
theorem argOf_imm (n : Int) (hb : 0 ≤ n) (hb' : n ≤ 4294967295) (w : World) :
    Calls Try.prog 32 #[.iface 38 (.int .u32 n)] w fun e w' => e = .returned (arg8 2 0 n 0 0 0 0 0) ∧ w' = (w.alloc (argB 2 0 n 0 0 0 0 0)) := by
  go_enter Try.func32, Try.ntmps32
  go_wp2
  exact bodyPost_ret (v := arg8 2 0 n 0 0 0 0 0) (by simp [results, Try.results32, go_sem]) rfl ⟨rfl, rfl⟩
end
section
attribute [local go_sem] taPCRel_Reg taPCRel_Imm taPCRel_ImmAlt taPCRel_RegShift taPCRel_RegShiftReg taPCRel_Mem taPCRel_PCRel
set_option maxHeartbeats 1000000 in
set_option maxRecDepth 100000 in
theorem argOf_pcrel (n : Int) (hb : -2147483648 ≤ n) (hb' : n ≤ 2147483647) (w : World) :
    Calls Try.prog 32 #[.iface 53 (.int .i32 n)] w fun e w' => e = .returned (arg8 7 0 n 0 0 0 0 0) ∧ w' = (w.alloc (argB 7 0 n 0 0 0 0 0)) := by
  go_enter Try.func32, Try.ntmps32
  go_wp2
  exact bodyPost_ret (v := arg8 7 0 n 0 0 0 0 0) (by simp [results, Try.results32, go_sem]) rfl ⟨rfl, rfl⟩
end
section
attribute [local go_sem] taRegList_Reg taRegList_Imm taRegList_ImmAlt taRegList_RegShift taRegList_RegShiftReg taRegList_Mem taRegList_PCRel taRegList_RegList
set_option maxHeartbeats 1000000 in
set_option maxRecDepth 100000 in
theorem argOf_list (n : Int) (hb : 0 ≤ n) (hb' : n ≤ 65535) (w : World) :
    Calls Try.prog 32 #[.iface 55 (.int .u16 n)] w fun e w' => e = .returned (arg8 8 0 n 0 0 0 0 0) ∧ w' = (w.alloc (argB 8 0 n 0 0 0 0 0)) := by
  go_enter Try.func32, Try.ntmps32
  go_wp2
  exact bodyPost_ret (v := arg8 8 0 n 0 0 0 0 0) (by simp [results, Try.results32, go_sem]) rfl ⟨rfl, rfl⟩
end
section
attribute [local go_sem] taEndian_Reg taEndian_Imm taEndian_ImmAlt taEndian_RegShift taEndian_RegShiftReg taEndian_Mem taEndian_PCRel taEndian_RegList taEndian_Endian
set_option maxHeartbeats 1000000 in
set_option maxRecDepth 100000 in
theorem argOf_endian (n : Int) (hb : 0 ≤ n) (hb' : n ≤ 255) (w : World) :
    Calls Try.prog 32 #[.iface 56 (.int .u8 n)] w fun e w' => e = .returned (arg8 9 0 n 0 0 0 0 0) ∧ w' = (w.alloc (argB 9 0 n 0 0 0 0 0)) := by
  go_enter Try.func32, Try.ntmps32
  go_wp2
  exact bodyPost_ret (v := arg8 9 0 n 0 0 0 0 0) (by simp [results, Try.results32, go_sem]) rfl ⟨rfl, rfl⟩
end
end Go.Proofs.Ytplljlgomameeaa
