/- The contracts of armasm.decodeArg at an address by a shifted register, its way told by bits. -/
import Derived.Test.YtkickdebbbdpiaaSpec
namespace Go.Proofs.Ytkickdebbbdpiaa
open Go.ChangeShapes Go.WideShapes Go.ChangeAt Go.RowKit
set_option linter.unusedVariables false
attribute [local go_sem] m1 m2 m4 m5 m8 m12 m16 m24
theorem x01 : bits .xor .u32 0 1 = 1 := by decide
theorem x11 : bits .xor .u32 1 1 = 0 := by decide
theorem o801 : bits .or .u8 0 1 = 1 := by decide
theorem o821 : bits .or .u8 2 1 = 3 := by decide
theorem o820 : bits .or .u8 2 0 = 2 := by decide
attribute [local go_sem] x01 x11 o801 o821 o820
set_option maxHeartbeats 2000000 in
set_option maxRecDepth 100000 in
theorem d_rs_0 (x : Int) (hb : 0 ≤ x) (hb' : x ≤ 4294967295) (h : modeS x = 0) (w : World) :
    Calls Try.prog 38 #[.int .u8 46, .int .u32 x] w fun e w' => e = .returned (.nilIface) ∧ w = w' := by
  have D := ds_c x hb hb'
  generalize dsK (x / 32 % 4) (x / 128 % 32) = K at *
  generalize dsC (x / 32 % 4) (x / 128 % 32) = C at *
  have HD := Lib.hid D
  clear D
  have hp : x / 16777216 % 2 = 0 := by unfold modeS at h; (repeat' split at h) <;> omega
  have hw : x / 2097152 % 2 = 1 := by unfold modeS at h; (repeat' split at h) <;> omega
  clear h
  all_goals
    go_enter Try.func38, Try.ntmps38
    go_wp2_with fail
    refine (HD.out _).mono ?_
    rintro e w1 ⟨rfl, rfl⟩
    go_wp2
  all_goals
    go_ret
    refine ⟨?_, ?_⟩
    all_goals (first | rfl | trivial)
set_option maxHeartbeats 2000000 in
set_option maxRecDepth 100000 in
theorem d_rs_1 (x : Int) (hb : 0 ≤ x) (hb' : x ≤ 4294967295) (h : 1 ≤ modeS x) (w : World) :
    Calls Try.prog 38 #[.int .u8 46, .int .u32 x] w fun e w' => e = .returned (.iface 53 (.agg #[.int .u8 (x / 65536 % 16), .int .u8 (modeS x), .int .i8 (pmV x 1), .int .u8 (x % 16), .int .u8 (dsK (x / 32 % 4) (x / 128 % 32)), .int .u8 (dsC (x / 32 % 4) (x / 128 % 32)), .int .i16 (0)])) ∧ w = w' := by
  have D := ds_c x hb hb'
  generalize dsK (x / 32 % 4) (x / 128 % 32) = K at *
  generalize dsC (x / 32 % 4) (x / 128 % 32) = C at *
  have HD := Lib.hid D
  clear D
  have hp : x / 16777216 % 2 = 0 ∨ x / 16777216 % 2 = 1 := by omega
  have hw : x / 2097152 % 2 = 0 ∨ x / 2097152 % 2 = 1 := by omega
  have hu : x / 8388608 % 2 = 0 ∨ x / 8388608 % 2 = 1 := by omega
  have hn : ¬ (x / 16777216 % 2 = 0 ∧ x / 2097152 % 2 = 1) := by unfold modeS at h; (repeat' split at h) <;> omega
  have eM : modeS x = x / 16777216 % 2 * 2 + (1 - x / 2097152 % 2) := by unfold modeS; (repeat' split) <;> omega
  rw [eM]
  have HM := Lib.hid hn
  clear h hn eM
  have hpw : (x / 16777216 % 2 = 0 ∧ x / 2097152 % 2 = 0) ∨ (x / 16777216 % 2 = 1 ∧ x / 2097152 % 2 = 0) ∨ (x / 16777216 % 2 = 1 ∧ x / 2097152 % 2 = 1) := by have := HM.out; omega
  clear HM hp hw
  rcases hpw with ⟨hp, hw⟩ | ⟨hp, hw⟩ | ⟨hp, hw⟩ <;> rcases hu with hu | hu
  all_goals
    go_enter Try.func38, Try.ntmps38
    go_wp2_with fail
    refine (HD.out _).mono ?_
    rintro e w1 ⟨rfl, rfl⟩
    go_wp2
  all_goals
    go_ret
    refine ⟨rmem ?_ ?_ ?_ ?_ ?_ ?_ ?_, ?_⟩
    all_goals (first | omega | (unfold pmV; split <;> omega) | rfl | trivial)
end Go.Proofs.Ytkickdebbbdpiaa
