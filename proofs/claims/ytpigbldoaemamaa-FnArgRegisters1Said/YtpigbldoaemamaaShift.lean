/- The contracts of armasm.decodeShift and spec.Shift: kind and count of a shift by a number. -/
import Derived.Test.YtpigbldoaemamaaQuiet
namespace Go.Proofs.Ytpigbldoaemamaa
open Go.ChangeShapes Go.WideShapes Go.ChangeAt Go.RowKit
attribute [local go_sem] m1 m2 m4 m5 m8 m12 m16 m24
def dsK (k c : Int) : Int := if k = 3 ∧ c = 0 then 4 else k
def dsC (k c : Int) : Int := if c = 0 then (if k = 0 then 0 else if k = 3 then 1 else 32) else c
theorem dsK_bd (x : Int) : 0 ≤ dsK (x / 32 % 4) (x / 128 % 32) ∧ dsK (x / 32 % 4) (x / 128 % 32) ≤ 4 := by unfold dsK; split <;> omega
theorem dsC_bd (x : Int) : 0 ≤ dsC (x / 32 % 4) (x / 128 % 32) ∧ dsC (x / 32 % 4) (x / 128 % 32) ≤ 32 := by unfold dsC; (repeat' split) <;> omega
set_option maxHeartbeats 400000 in
theorem ds_c (x : Int) (_hb : 0 ≤ x) (_hb' : x ≤ 4294967295) (w : World) :
    Calls Try.prog 46 #[.int .u32 x] w fun e w' => e = .returned (.tuple #[.int .u8 (dsK (x / 32 % 4) (x / 128 % 32)), .int .u8 (dsC (x / 32 % 4) (x / 128 % 32))]) ∧ w = w' := by
  go_enter Try.func46, Try.ntmps46
  go_wp2
  all_goals
    go_ret2
    simp only [beq_iff_eq, beq_eq_false_iff_ne] at *
    exact ⟨tup2 (by unfold dsK; split <;> omega) (by unfold dsC; (repeat' split) <;> omega), trivial⟩
end Go.Proofs.Ytpigbldoaemamaa
