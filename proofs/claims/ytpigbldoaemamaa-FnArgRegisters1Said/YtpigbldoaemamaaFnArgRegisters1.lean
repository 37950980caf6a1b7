/- laws.FnArgRegisters1 returns true for every word x: the argument registers1 is the list of the register of bits 15 to 12. No conditions.
   The frame of this text was written by the kit's proof-skeleton.mjs; the walk and the lemmas ahead of it are this claim's own. -/
import Derived.Test.YtpigbldoaemamaaRows
import Derived.WalkKit
import Derived.ProofKit
import Derived.OpenShut
import Derived.Test.YtpigbldoaemamaaSpec
namespace Go.Proofs.Ytpigbldoaemamaa.fnArgRegisters1
open Go.ChangeShapes Go.WideShapes Go.ChangeAt Go.RowKit
set_option linter.unusedVariables false      -- a walk need not use every 'w<i>' (that an integer argument fits its kind)

theorem own : ownKnob Try.prog.godebug = none := by kernel_rfl

attribute [local go_sem] m1 m2 m4 m5 m8 m12 m16 m24
def p2 (n : Int) : Int := 2 ^ n.toNat
theorem p2_bd (n : Int) (h0 : 0 ≤ n) (h : n ≤ 15) : 1 ≤ p2 n ∧ p2 n ≤ 32768 := by
  have hv : n = 0 ∨ n = 1 ∨ n = 2 ∨ n = 3 ∨ n = 4 ∨ n = 5 ∨ n = 6 ∨ n = 7 ∨ n = 8 ∨ n = 9 ∨ n = 10 ∨ n = 11 ∨ n = 12 ∨ n = 13 ∨ n = 14 ∨ n = 15 := by omega
  rcases hv with rfl | rfl | rfl | rfl | rfl | rfl | rfl | rfl | rfl | rfl | rfl | rfl | rfl | rfl | rfl | rfl <;> decide
set_option maxHeartbeats 2000000 in
set_option maxRecDepth 100000 in
theorem d_list1 (x : Int) (hb : 0 ≤ x) (hb' : x ≤ 4294967295) (w : World) :
    Calls Try.prog 44 #[.int .u8 57, .int .u32 x] w fun e w' => e = .returned (.iface 54 (.int .u16 (p2 (x / 4096 % 16)))) ∧ w = w' := by
  have hv : x / 4096 % 16 = 0 ∨ x / 4096 % 16 = 1 ∨ x / 4096 % 16 = 2 ∨ x / 4096 % 16 = 3 ∨ x / 4096 % 16 = 4 ∨ x / 4096 % 16 = 5 ∨ x / 4096 % 16 = 6 ∨ x / 4096 % 16 = 7 ∨ x / 4096 % 16 = 8 ∨ x / 4096 % 16 = 9 ∨ x / 4096 % 16 = 10 ∨ x / 4096 % 16 = 11 ∨ x / 4096 % 16 = 12 ∨ x / 4096 % 16 = 13 ∨ x / 4096 % 16 = 14 ∨ x / 4096 % 16 = 15 := by omega
  rcases hv with hv | hv | hv | hv | hv | hv | hv | hv | hv | hv | hv | hv | hv | hv | hv | hv
  all_goals
    go_enter Try.func44, Try.ntmps44
    go_wp2
  all_goals
    go_ret
    refine ⟨ri ?_, ?_⟩
    all_goals (first | (unfold p2; rw [hv]; rfl) | rfl | trivial)
set_option maxHeartbeats 2000000 in
set_option maxRecDepth 100000 in
theorem arg_list1 (x : Int) (hb : 0 ≤ x) (hb' : x ≤ 4294967295) (w : World) :
    Calls Try.prog 20 #[.int .u32 x] w fun e w' => e = .returned (arg8 8 0 (p2 (x / 4096 % 16)) 0 0 0 0 0) ∧ Grown w w' := by
  obtain ⟨b0, b1⟩ := p2_bd (x / 4096 % 16) (by omega) (by omega)
  go_enter Try.func20, Try.ntmps20
  go_wp2_with (first | (go_at_call 44; refine (d_list1 x hb hb' _).mono ?_; rintro e w1 ⟨rfl, rfl⟩) | (go_at_call 39; refine (argOf_list (p2 (x / 4096 % 16)) (by omega) (by omega) _).mono ?_; rintro e w1 ⟨rfl, rfl⟩) | go_in)
  exact bodyPost_ret (v := arg8 8 0 (p2 (x / 4096 % 16)) 0 0 0 0 0) (by simp [results, Try.results20, go_sem]) rfl ⟨rfl, (by repeat (first | with_reducible exact Grown.refl _ | with_reducible apply grown_drewN | with_reducible apply Grown.drew | with_reducible apply Grown.alloc | with_reducible apply grown_set | with_reducible apply grown_set1))⟩
set_option maxHeartbeats 4000000 in
set_option maxRecDepth 100000 in
theorem walk (a0 : Int) (w0 : (Lit.int .u32 a0).wf = true) (w : World) :
    Calls Try.prog 4 #[.int .u32 a0] w fun e w' => e = .returned (.bool true) ∧ Grown w w' := by
  obtain ⟨hb, hb'⟩ := bounds_u32 w0
  have A := arg_list1 a0 hb hb'
  have hv : a0 / 4096 % 16 = 0 ∨ a0 / 4096 % 16 = 1 ∨ a0 / 4096 % 16 = 2 ∨ a0 / 4096 % 16 = 3 ∨ a0 / 4096 % 16 = 4 ∨ a0 / 4096 % 16 = 5 ∨ a0 / 4096 % 16 = 6 ∨ a0 / 4096 % 16 = 7 ∨ a0 / 4096 % 16 = 8 ∨ a0 / 4096 % 16 = 9 ∨ a0 / 4096 % 16 = 10 ∨ a0 / 4096 % 16 = 11 ∨ a0 / 4096 % 16 = 12 ∨ a0 / 4096 % 16 = 13 ∨ a0 / 4096 % 16 = 14 ∨ a0 / 4096 % 16 = 15 := by omega
  rcases hv with hv | hv | hv | hv | hv | hv | hv | hv | hv | hv | hv | hv | hv | hv | hv | hv
  · rw [hv, show p2 0 = 1 from rfl] at A
    have HA := Lib.hid A
    clear A
    go_enter Try.func4, Try.ntmps4
    go_wp2_with fail
    refine (HA.out _).mono ?_
    rintro e w1' ⟨rfl, g1⟩
    have G1 := Lib.hid g1; clear g1
    go_wp2_with fail
    refine (F_12_4 a0 hb hb' _).mono ?_
    rintro e w2' ⟨rfl, n2, rfl⟩
    go_wp2
    go_ret
    exact ⟨rfl, grown_trans (by repeat (first | with_reducible exact Grown.refl _ | with_reducible apply grown_drewN | with_reducible apply Grown.drew | with_reducible apply Grown.alloc | with_reducible apply grown_set | with_reducible apply grown_set1)) (grown_trans (G1.out) ((by repeat (first | with_reducible exact Grown.refl _ | with_reducible apply grown_drewN | with_reducible apply Grown.drew | with_reducible apply Grown.alloc | with_reducible apply grown_set | with_reducible apply grown_set1))))⟩
  · rw [hv, show p2 1 = 2 from rfl] at A
    have HA := Lib.hid A
    clear A
    go_enter Try.func4, Try.ntmps4
    go_wp2_with fail
    refine (HA.out _).mono ?_
    rintro e w1' ⟨rfl, g1⟩
    have G1 := Lib.hid g1; clear g1
    go_wp2_with fail
    refine (F_12_4 a0 hb hb' _).mono ?_
    rintro e w2' ⟨rfl, n2, rfl⟩
    go_wp2
    go_ret
    exact ⟨rfl, grown_trans (by repeat (first | with_reducible exact Grown.refl _ | with_reducible apply grown_drewN | with_reducible apply Grown.drew | with_reducible apply Grown.alloc | with_reducible apply grown_set | with_reducible apply grown_set1)) (grown_trans (G1.out) ((by repeat (first | with_reducible exact Grown.refl _ | with_reducible apply grown_drewN | with_reducible apply Grown.drew | with_reducible apply Grown.alloc | with_reducible apply grown_set | with_reducible apply grown_set1))))⟩
  · rw [hv, show p2 2 = 4 from rfl] at A
    have HA := Lib.hid A
    clear A
    go_enter Try.func4, Try.ntmps4
    go_wp2_with fail
    refine (HA.out _).mono ?_
    rintro e w1' ⟨rfl, g1⟩
    have G1 := Lib.hid g1; clear g1
    go_wp2_with fail
    refine (F_12_4 a0 hb hb' _).mono ?_
    rintro e w2' ⟨rfl, n2, rfl⟩
    go_wp2
    go_ret
    exact ⟨rfl, grown_trans (by repeat (first | with_reducible exact Grown.refl _ | with_reducible apply grown_drewN | with_reducible apply Grown.drew | with_reducible apply Grown.alloc | with_reducible apply grown_set | with_reducible apply grown_set1)) (grown_trans (G1.out) ((by repeat (first | with_reducible exact Grown.refl _ | with_reducible apply grown_drewN | with_reducible apply Grown.drew | with_reducible apply Grown.alloc | with_reducible apply grown_set | with_reducible apply grown_set1))))⟩
  · rw [hv, show p2 3 = 8 from rfl] at A
    have HA := Lib.hid A
    clear A
    go_enter Try.func4, Try.ntmps4
    go_wp2_with fail
    refine (HA.out _).mono ?_
    rintro e w1' ⟨rfl, g1⟩
    have G1 := Lib.hid g1; clear g1
    go_wp2_with fail
    refine (F_12_4 a0 hb hb' _).mono ?_
    rintro e w2' ⟨rfl, n2, rfl⟩
    go_wp2
    go_ret
    exact ⟨rfl, grown_trans (by repeat (first | with_reducible exact Grown.refl _ | with_reducible apply grown_drewN | with_reducible apply Grown.drew | with_reducible apply Grown.alloc | with_reducible apply grown_set | with_reducible apply grown_set1)) (grown_trans (G1.out) ((by repeat (first | with_reducible exact Grown.refl _ | with_reducible apply grown_drewN | with_reducible apply Grown.drew | with_reducible apply Grown.alloc | with_reducible apply grown_set | with_reducible apply grown_set1))))⟩
  · rw [hv, show p2 4 = 16 from rfl] at A
    have HA := Lib.hid A
    clear A
    go_enter Try.func4, Try.ntmps4
    go_wp2_with fail
    refine (HA.out _).mono ?_
    rintro e w1' ⟨rfl, g1⟩
    have G1 := Lib.hid g1; clear g1
    go_wp2_with fail
    refine (F_12_4 a0 hb hb' _).mono ?_
    rintro e w2' ⟨rfl, n2, rfl⟩
    go_wp2
    go_ret
    exact ⟨rfl, grown_trans (by repeat (first | with_reducible exact Grown.refl _ | with_reducible apply grown_drewN | with_reducible apply Grown.drew | with_reducible apply Grown.alloc | with_reducible apply grown_set | with_reducible apply grown_set1)) (grown_trans (G1.out) ((by repeat (first | with_reducible exact Grown.refl _ | with_reducible apply grown_drewN | with_reducible apply Grown.drew | with_reducible apply Grown.alloc | with_reducible apply grown_set | with_reducible apply grown_set1))))⟩
  · rw [hv, show p2 5 = 32 from rfl] at A
    have HA := Lib.hid A
    clear A
    go_enter Try.func4, Try.ntmps4
    go_wp2_with fail
    refine (HA.out _).mono ?_
    rintro e w1' ⟨rfl, g1⟩
    have G1 := Lib.hid g1; clear g1
    go_wp2_with fail
    refine (F_12_4 a0 hb hb' _).mono ?_
    rintro e w2' ⟨rfl, n2, rfl⟩
    go_wp2
    go_ret
    exact ⟨rfl, grown_trans (by repeat (first | with_reducible exact Grown.refl _ | with_reducible apply grown_drewN | with_reducible apply Grown.drew | with_reducible apply Grown.alloc | with_reducible apply grown_set | with_reducible apply grown_set1)) (grown_trans (G1.out) ((by repeat (first | with_reducible exact Grown.refl _ | with_reducible apply grown_drewN | with_reducible apply Grown.drew | with_reducible apply Grown.alloc | with_reducible apply grown_set | with_reducible apply grown_set1))))⟩
  · rw [hv, show p2 6 = 64 from rfl] at A
    have HA := Lib.hid A
    clear A
    go_enter Try.func4, Try.ntmps4
    go_wp2_with fail
    refine (HA.out _).mono ?_
    rintro e w1' ⟨rfl, g1⟩
    have G1 := Lib.hid g1; clear g1
    go_wp2_with fail
    refine (F_12_4 a0 hb hb' _).mono ?_
    rintro e w2' ⟨rfl, n2, rfl⟩
    go_wp2
    go_ret
    exact ⟨rfl, grown_trans (by repeat (first | with_reducible exact Grown.refl _ | with_reducible apply grown_drewN | with_reducible apply Grown.drew | with_reducible apply Grown.alloc | with_reducible apply grown_set | with_reducible apply grown_set1)) (grown_trans (G1.out) ((by repeat (first | with_reducible exact Grown.refl _ | with_reducible apply grown_drewN | with_reducible apply Grown.drew | with_reducible apply Grown.alloc | with_reducible apply grown_set | with_reducible apply grown_set1))))⟩
  · rw [hv, show p2 7 = 128 from rfl] at A
    have HA := Lib.hid A
    clear A
    go_enter Try.func4, Try.ntmps4
    go_wp2_with fail
    refine (HA.out _).mono ?_
    rintro e w1' ⟨rfl, g1⟩
    have G1 := Lib.hid g1; clear g1
    go_wp2_with fail
    refine (F_12_4 a0 hb hb' _).mono ?_
    rintro e w2' ⟨rfl, n2, rfl⟩
    go_wp2
    go_ret
    exact ⟨rfl, grown_trans (by repeat (first | with_reducible exact Grown.refl _ | with_reducible apply grown_drewN | with_reducible apply Grown.drew | with_reducible apply Grown.alloc | with_reducible apply grown_set | with_reducible apply grown_set1)) (grown_trans (G1.out) ((by repeat (first | with_reducible exact Grown.refl _ | with_reducible apply grown_drewN | with_reducible apply Grown.drew | with_reducible apply Grown.alloc | with_reducible apply grown_set | with_reducible apply grown_set1))))⟩
  · rw [hv, show p2 8 = 256 from rfl] at A
    have HA := Lib.hid A
    clear A
    go_enter Try.func4, Try.ntmps4
    go_wp2_with fail
    refine (HA.out _).mono ?_
    rintro e w1' ⟨rfl, g1⟩
    have G1 := Lib.hid g1; clear g1
    go_wp2_with fail
    refine (F_12_4 a0 hb hb' _).mono ?_
    rintro e w2' ⟨rfl, n2, rfl⟩
    go_wp2
    go_ret
    exact ⟨rfl, grown_trans (by repeat (first | with_reducible exact Grown.refl _ | with_reducible apply grown_drewN | with_reducible apply Grown.drew | with_reducible apply Grown.alloc | with_reducible apply grown_set | with_reducible apply grown_set1)) (grown_trans (G1.out) ((by repeat (first | with_reducible exact Grown.refl _ | with_reducible apply grown_drewN | with_reducible apply Grown.drew | with_reducible apply Grown.alloc | with_reducible apply grown_set | with_reducible apply grown_set1))))⟩
  · rw [hv, show p2 9 = 512 from rfl] at A
    have HA := Lib.hid A
    clear A
    go_enter Try.func4, Try.ntmps4
    go_wp2_with fail
    refine (HA.out _).mono ?_
    rintro e w1' ⟨rfl, g1⟩
    have G1 := Lib.hid g1; clear g1
    go_wp2_with fail
    refine (F_12_4 a0 hb hb' _).mono ?_
    rintro e w2' ⟨rfl, n2, rfl⟩
    go_wp2
    go_ret
    exact ⟨rfl, grown_trans (by repeat (first | with_reducible exact Grown.refl _ | with_reducible apply grown_drewN | with_reducible apply Grown.drew | with_reducible apply Grown.alloc | with_reducible apply grown_set | with_reducible apply grown_set1)) (grown_trans (G1.out) ((by repeat (first | with_reducible exact Grown.refl _ | with_reducible apply grown_drewN | with_reducible apply Grown.drew | with_reducible apply Grown.alloc | with_reducible apply grown_set | with_reducible apply grown_set1))))⟩
  · rw [hv, show p2 10 = 1024 from rfl] at A
    have HA := Lib.hid A
    clear A
    go_enter Try.func4, Try.ntmps4
    go_wp2_with fail
    refine (HA.out _).mono ?_
    rintro e w1' ⟨rfl, g1⟩
    have G1 := Lib.hid g1; clear g1
    go_wp2_with fail
    refine (F_12_4 a0 hb hb' _).mono ?_
    rintro e w2' ⟨rfl, n2, rfl⟩
    go_wp2
    go_ret
    exact ⟨rfl, grown_trans (by repeat (first | with_reducible exact Grown.refl _ | with_reducible apply grown_drewN | with_reducible apply Grown.drew | with_reducible apply Grown.alloc | with_reducible apply grown_set | with_reducible apply grown_set1)) (grown_trans (G1.out) ((by repeat (first | with_reducible exact Grown.refl _ | with_reducible apply grown_drewN | with_reducible apply Grown.drew | with_reducible apply Grown.alloc | with_reducible apply grown_set | with_reducible apply grown_set1))))⟩
  · rw [hv, show p2 11 = 2048 from rfl] at A
    have HA := Lib.hid A
    clear A
    go_enter Try.func4, Try.ntmps4
    go_wp2_with fail
    refine (HA.out _).mono ?_
    rintro e w1' ⟨rfl, g1⟩
    have G1 := Lib.hid g1; clear g1
    go_wp2_with fail
    refine (F_12_4 a0 hb hb' _).mono ?_
    rintro e w2' ⟨rfl, n2, rfl⟩
    go_wp2
    go_ret
    exact ⟨rfl, grown_trans (by repeat (first | with_reducible exact Grown.refl _ | with_reducible apply grown_drewN | with_reducible apply Grown.drew | with_reducible apply Grown.alloc | with_reducible apply grown_set | with_reducible apply grown_set1)) (grown_trans (G1.out) ((by repeat (first | with_reducible exact Grown.refl _ | with_reducible apply grown_drewN | with_reducible apply Grown.drew | with_reducible apply Grown.alloc | with_reducible apply grown_set | with_reducible apply grown_set1))))⟩
  · rw [hv, show p2 12 = 4096 from rfl] at A
    have HA := Lib.hid A
    clear A
    go_enter Try.func4, Try.ntmps4
    go_wp2_with fail
    refine (HA.out _).mono ?_
    rintro e w1' ⟨rfl, g1⟩
    have G1 := Lib.hid g1; clear g1
    go_wp2_with fail
    refine (F_12_4 a0 hb hb' _).mono ?_
    rintro e w2' ⟨rfl, n2, rfl⟩
    go_wp2
    go_ret
    exact ⟨rfl, grown_trans (by repeat (first | with_reducible exact Grown.refl _ | with_reducible apply grown_drewN | with_reducible apply Grown.drew | with_reducible apply Grown.alloc | with_reducible apply grown_set | with_reducible apply grown_set1)) (grown_trans (G1.out) ((by repeat (first | with_reducible exact Grown.refl _ | with_reducible apply grown_drewN | with_reducible apply Grown.drew | with_reducible apply Grown.alloc | with_reducible apply grown_set | with_reducible apply grown_set1))))⟩
  · rw [hv, show p2 13 = 8192 from rfl] at A
    have HA := Lib.hid A
    clear A
    go_enter Try.func4, Try.ntmps4
    go_wp2_with fail
    refine (HA.out _).mono ?_
    rintro e w1' ⟨rfl, g1⟩
    have G1 := Lib.hid g1; clear g1
    go_wp2_with fail
    refine (F_12_4 a0 hb hb' _).mono ?_
    rintro e w2' ⟨rfl, n2, rfl⟩
    go_wp2
    go_ret
    exact ⟨rfl, grown_trans (by repeat (first | with_reducible exact Grown.refl _ | with_reducible apply grown_drewN | with_reducible apply Grown.drew | with_reducible apply Grown.alloc | with_reducible apply grown_set | with_reducible apply grown_set1)) (grown_trans (G1.out) ((by repeat (first | with_reducible exact Grown.refl _ | with_reducible apply grown_drewN | with_reducible apply Grown.drew | with_reducible apply Grown.alloc | with_reducible apply grown_set | with_reducible apply grown_set1))))⟩
  · rw [hv, show p2 14 = 16384 from rfl] at A
    have HA := Lib.hid A
    clear A
    go_enter Try.func4, Try.ntmps4
    go_wp2_with fail
    refine (HA.out _).mono ?_
    rintro e w1' ⟨rfl, g1⟩
    have G1 := Lib.hid g1; clear g1
    go_wp2_with fail
    refine (F_12_4 a0 hb hb' _).mono ?_
    rintro e w2' ⟨rfl, n2, rfl⟩
    go_wp2
    go_ret
    exact ⟨rfl, grown_trans (by repeat (first | with_reducible exact Grown.refl _ | with_reducible apply grown_drewN | with_reducible apply Grown.drew | with_reducible apply Grown.alloc | with_reducible apply grown_set | with_reducible apply grown_set1)) (grown_trans (G1.out) ((by repeat (first | with_reducible exact Grown.refl _ | with_reducible apply grown_drewN | with_reducible apply Grown.drew | with_reducible apply Grown.alloc | with_reducible apply grown_set | with_reducible apply grown_set1))))⟩
  · rw [hv, show p2 15 = 32768 from rfl] at A
    have HA := Lib.hid A
    clear A
    go_enter Try.func4, Try.ntmps4
    go_wp2_with fail
    refine (HA.out _).mono ?_
    rintro e w1' ⟨rfl, g1⟩
    have G1 := Lib.hid g1; clear g1
    go_wp2_with fail
    refine (F_12_4 a0 hb hb' _).mono ?_
    rintro e w2' ⟨rfl, n2, rfl⟩
    go_wp2
    go_ret
    exact ⟨rfl, grown_trans (by repeat (first | with_reducible exact Grown.refl _ | with_reducible apply grown_drewN | with_reducible apply Grown.drew | with_reducible apply Grown.alloc | with_reducible apply grown_set | with_reducible apply grown_set1)) (grown_trans (G1.out) ((by repeat (first | with_reducible exact Grown.refl _ | with_reducible apply grown_drewN | with_reducible apply Grown.drew | with_reducible apply Grown.alloc | with_reducible apply grown_set | with_reducible apply grown_set1))))⟩

/-! ### THE ROW's STEP: WRITTEN OUT: LEAVE IT -/
set_option maxRecDepth 100000 in
theorem lifted (os : Os) (started : os.Started) (H : Type) (enc : TypeId × Value → H) :
    ReturnsInHanded {} Try.checked os 4 .any (Rows.fnArgRegisters1Spec.pre6 enc Try.prog Try.f4 Rows.fnArgRegisters1Row.domain false) (Rows.fnArgRegisters1Spec.post enc Try.prog Try.f4 false true false false) := by
  refine returnsInHanded_of_change (C := Try.checked) own started (by kernel_rfl) Try.func4
    (ChangeSpec.witness6 (enc := enc) (C := Try.checked) false ⟨#[], #[.int .u32 0], []⟩ 8 (by kernel_rfl) (by kernel_rfl) (by kernel_rfl) (by kernel_rfl)) ?_
  intro W base args ds gs before hval0 hW hcnd _
  have hval : ∀ (j : Nat) t v, Try.f4.params[j]? = some t → args[j]? = some v → Value.okWide Try.prog W .any base t v := hval0
  have hW' := hW
  obtain ⟨p, q, hA0, hV, rfl, hfz, hnd⟩ := hW
  have hA : DataW.TrodAll enc Try.prog W 0 (fun _ => true) true Try.f4.params.toList args.toList ds p := hA0
  rw [Try.params4] at hA hval
  obtain ⟨v0, vs0, d0, ds0, p0, q0, hargs, rfl, rfl, h0, r0⟩ := trodAll_cons hA
  obtain ⟨rfl, rfl, rfl⟩ := trodAll_nil r0
  obtain rfl : args = #[v0] := by cases args; simp_all
  obtain ⟨rfl, rfl⟩ := trodVars_none hV
  obtain ⟨a0, rfl, rfl, rfl, w0⟩ := open_int Try.underlying22 (hval 0 22 v0 rfl rfl) h0
  clear hA0 hval0
  simp only [List.append_nil] at hW'
  refine (walk a0 w0 W).mono fun e W' ⟨he, hg⟩ => ?_
  subst he
  exact ⟨_, rfl, post_of_same (pa := []) (pv := []) hW' (fun _ _ _ => (trodAll_cons_mk (shut_bool Try.underlying4 _) trodAll_mk0)) (fun sp _ => (trodAll_cons_mk (shut_int Try.underlying22 w0) trodAll_mk0)) (fun _ _ => rfl) rfl
    (hg.frame _) hg.2.1 (ok_one (by kernel_rfl) rfl (okWide_bool_mk Try.underlying4 _))⟩

theorem over : Rows.fnArgRegisters1Row.holds Try.pinned (OpenSpec.ofChange Rows.fnArgRegisters1Spec) :=
  OpenClaim.holds_of_wide 4 Try.f4 rfl rfl rfl rfl rfl rfl rfl ⟨rfl, rfl, rfl, rfl, rfl⟩ rfl rfl rfl rfl rfl (by kernel_rfl) Try.func4 (by kernel_rfl)
    (of_decide_eq_true (by kernel_rfl)) (by unfold Func.isWrapper; first | (rw [if_pos (by decide +kernel)]; kernel_rfl) | (rw [if_neg (by decide +kernel)]; exact ⟨rfl, rfl⟩))
    (fun os started H enc _ => lifted os started H enc)

/-- THE STATEMENT -/
theorem proved : Rows.FnArgRegisters1Said :=
  over
#print axioms proved
end Go.Proofs.Ytpigbldoaemamaa.fnArgRegisters1
