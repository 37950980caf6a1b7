/- laws.FnArgRRotate returns true for every word x: where bits 9 to 4 are 7 the argument R_rotate is the register of bits 3 to 0, rotated by 8 times bits 11 and 10. No conditions.
   The frame of this text was written by the kit's proof-skeleton.mjs; the walk and the lemmas ahead of it are this claim's own. -/
import Derived.Test.YtbfcdbadkpibnaaRows
import Derived.WalkKit
import Derived.ProofKit
import Derived.OpenShut
import Derived.Test.YtbfcdbadkpibnaaSpec
namespace Go.Proofs.Ytbfcdbadkpibnaa.fnArgRRotate
open Go.ChangeShapes Go.WideShapes Go.ChangeAt Go.RowKit
set_option linter.unusedVariables false      -- a walk need not use every 'w<i>' (that an integer argument fits its kind)

theorem own : ownKnob Try.prog.godebug = none := by kernel_rfl

attribute [local go_sem] m1 m2 m4 m5 m8 m12 m16 m24
set_option maxHeartbeats 2000000 in
set_option maxRecDepth 100000 in
theorem d_rot_0 (x : Int) (hb : 0 ≤ x) (hb' : x ≤ 4294967295) (h7 : x / 16 % 64 = 7) (h : x / 1024 % 4 = 0) (w : World) :
    Calls Try.prog 38 #[.int .u8 14, .int .u32 x] w fun e w' => e = .returned (.iface 36 (.int .u8 (x % 16))) ∧ w = w' := by
  have eK : dsK (x / 32 % 4) (x / 128 % 32) = 4 := by unfold dsK; rw [if_pos (by omega)]
  have eC : dsC (x / 32 % 4) (x / 128 % 32) = 1 := by unfold dsC; rw [if_pos (by omega), if_neg (by omega), if_pos (by omega)]
  have D := ds_c x hb hb'
  rw [eK, eC] at D
  have HD := Lib.hid D
  clear D eK eC h7 h
  all_goals
    go_enter Try.func38, Try.ntmps38
    go_wp2_with fail
    refine (HD.out _).mono ?_
    rintro e w1 ⟨rfl, rfl⟩
    go_wp2
  all_goals
    go_ret
    refine ⟨ri ?_, ?_⟩
    all_goals ((try unfold wrap32); first | omega | rfl | trivial)
set_option maxHeartbeats 2000000 in
set_option maxRecDepth 100000 in
theorem d_rot_1 (x : Int) (hb : 0 ≤ x) (hb' : x ≤ 4294967295) (h7 : x / 16 % 64 = 7) (h : 1 ≤ x / 1024 % 4) (w : World) :
    Calls Try.prog 38 #[.int .u8 14, .int .u32 x] w fun e w' => e = .returned (.iface 43 (.agg #[.int .u8 (x % 16), .int .u8 (3), .int .u8 (8 * (x / 1024 % 4))])) ∧ w = w' := by
  have eK : dsK (x / 32 % 4) (x / 128 % 32) = 3 := by unfold dsK; rw [if_neg (by omega)]; omega
  have eC : dsC (x / 32 % 4) (x / 128 % 32) = 8 * (x / 1024 % 4) := by unfold dsC; rw [if_neg (by omega)]; omega
  have D := ds_c x hb hb'
  rw [eK, eC] at D
  have HD := Lib.hid D
  clear D eK eC h7
  all_goals
    go_enter Try.func38, Try.ntmps38
    go_wp2_with fail
    refine (HD.out _).mono ?_
    rintro e w1 ⟨rfl, rfl⟩
    go_wp2
  all_goals
    go_ret
    refine ⟨ri3 ?_ ?_ ?_, ?_⟩
    all_goals ((try unfold wrap32); first | omega | rfl | trivial)
set_option maxHeartbeats 2000000 in
set_option maxRecDepth 100000 in
theorem arg_rot_0 (x : Int) (hb : 0 ≤ x) (hb' : x ≤ 4294967295) (h7 : x / 16 % 64 = 7) (h : x / 1024 % 4 = 0) (w : World) :
    Calls Try.prog 28 #[.int .u32 x] w fun e w' => e = .returned (arg8 1 (x % 16) 0 0 0 0 0 0) ∧ Grown w w' := by
  have H7 := Lib.hid h7
  have HH := Lib.hid h
  clear h7 h
  go_enter Try.func28, Try.ntmps28
  go_wp2_with (first | (go_at_call 38; refine (d_rot_0 x hb hb' H7.out HH.out _).mono ?_; rintro e w1 ⟨rfl, rfl⟩) | (go_at_call 33; refine (argOf_reg (x % 16) (by omega) (by omega) _).mono ?_; rintro e w1 ⟨rfl, rfl⟩) | go_in)
  exact bodyPost_ret (v := arg8 1 (x % 16) 0 0 0 0 0 0) (by simp [results, Try.results28, go_sem]) rfl ⟨rfl, (by repeat (first | with_reducible exact Grown.refl _ | with_reducible apply grown_drewN | with_reducible apply Grown.drew | with_reducible apply Grown.alloc | with_reducible apply grown_set))⟩
set_option maxHeartbeats 2000000 in
set_option maxRecDepth 100000 in
theorem arg_rot_1 (x : Int) (hb : 0 ≤ x) (hb' : x ≤ 4294967295) (h7 : x / 16 % 64 = 7) (h : 1 ≤ x / 1024 % 4) (w : World) :
    Calls Try.prog 28 #[.int .u32 x] w fun e w' => e = .returned (arg8 4 (x % 16) 0 3 (8 * (x / 1024 % 4)) 0 0 0) ∧ Grown w w' := by
  have H7 := Lib.hid h7
  have HH := Lib.hid h
  clear h7 h
  go_enter Try.func28, Try.ntmps28
  go_wp2_with (first | (go_at_call 38; refine (d_rot_1 x hb hb' H7.out HH.out _).mono ?_; rintro e w1 ⟨rfl, rfl⟩) | (go_at_call 33; refine (argOf_shift (x % 16) (3) (8 * (x / 1024 % 4)) (by omega) (by omega) (by omega) (by omega) (by omega) (by omega) _).mono ?_; rintro e w1 ⟨rfl, rfl⟩) | go_in)
  exact bodyPost_ret (v := arg8 4 (x % 16) 0 3 (8 * (x / 1024 % 4)) 0 0 0) (by simp [results, Try.results28, go_sem]) rfl ⟨rfl, (by repeat (first | with_reducible exact Grown.refl _ | with_reducible apply grown_drewN | with_reducible apply Grown.drew | with_reducible apply Grown.alloc | with_reducible apply grown_set))⟩
set_option maxHeartbeats 4000000 in
set_option maxRecDepth 100000 in
theorem walk (a0 : Int) (w0 : (Lit.int .u32 a0).wf = true) (w : World) :
    Calls Try.prog 12 #[.int .u32 a0] w fun e w' => e = .returned (.bool true) ∧ Grown w w' := by
  obtain ⟨hb, hb'⟩ := bounds_u32 w0
  by_cases h7 : a0 / 16 % 64 = 7
  · by_cases h : a0 / 1024 % 4 = 0
    · have H7 := Lib.hid h7
      have HH := Lib.hid h
      clear h7 h
      go_enter Try.func12, Try.ntmps12
      go_wp2_with fail
      refine (F_4_6 a0 hb hb' _).mono ?_
      rintro e w1' ⟨rfl, n1, rfl⟩
      rw [H7.out]
      go_wp2_with fail
      refine (arg_rot_0 a0 hb hb' H7.out HH.out _).mono ?_
      rintro e w3' ⟨rfl, g3⟩
      have G3 := Lib.hid g3; clear g3
      go_wp2_with fail
      refine (Rotated_0 a0 hb hb' HH.out _).mono ?_
      rintro e w4' ⟨rfl, g4⟩
      have G4 := Lib.hid g4; clear g4
      go_wp2
      go_ret
      exact ⟨rfl, grown_trans (by repeat (first | with_reducible exact Grown.refl _ | with_reducible apply grown_drewN | with_reducible apply Grown.drew | with_reducible apply Grown.alloc | with_reducible apply grown_set)) (grown_trans (G3.out) (grown_trans (by repeat (first | with_reducible exact Grown.refl _ | with_reducible apply grown_drewN | with_reducible apply Grown.drew | with_reducible apply Grown.alloc | with_reducible apply grown_set)) (grown_trans (G4.out) ((by repeat (first | with_reducible exact Grown.refl _ | with_reducible apply grown_drewN | with_reducible apply Grown.drew | with_reducible apply Grown.alloc | with_reducible apply grown_set))))))⟩
    · have H7 := Lib.hid h7
      have HH := Lib.hid (show 1 ≤ a0 / 1024 % 4 by omega)
      clear h7 h
      go_enter Try.func12, Try.ntmps12
      go_wp2_with fail
      refine (F_4_6 a0 hb hb' _).mono ?_
      rintro e w1' ⟨rfl, n1, rfl⟩
      rw [H7.out]
      go_wp2_with fail
      refine (arg_rot_1 a0 hb hb' H7.out HH.out _).mono ?_
      rintro e w3' ⟨rfl, g3⟩
      have G3 := Lib.hid g3; clear g3
      go_wp2_with fail
      refine (Rotated_1 a0 hb hb' HH.out _).mono ?_
      rintro e w4' ⟨rfl, g4⟩
      have G4 := Lib.hid g4; clear g4
      go_wp2
      go_ret
      exact ⟨rfl, grown_trans (by repeat (first | with_reducible exact Grown.refl _ | with_reducible apply grown_drewN | with_reducible apply Grown.drew | with_reducible apply Grown.alloc | with_reducible apply grown_set)) (grown_trans (G3.out) (grown_trans (by repeat (first | with_reducible exact Grown.refl _ | with_reducible apply grown_drewN | with_reducible apply Grown.drew | with_reducible apply Grown.alloc | with_reducible apply grown_set)) (grown_trans (G4.out) ((by repeat (first | with_reducible exact Grown.refl _ | with_reducible apply grown_drewN | with_reducible apply Grown.drew | with_reducible apply Grown.alloc | with_reducible apply grown_set))))))⟩
  · have hq : (a0 / 16 % 64 != 7) = true := by simp [h7]
    clear h7
    go_enter Try.func12, Try.ntmps12
    go_wp2_with fail
    refine (F_4_6 a0 hb hb' _).mono ?_
    rintro e w1' ⟨rfl, n1, rfl⟩
    go_wp2
    go_ret
    exact ⟨rfl, (by repeat (first | with_reducible exact Grown.refl _ | with_reducible apply grown_drewN | with_reducible apply Grown.drew | with_reducible apply Grown.alloc | with_reducible apply grown_set))⟩

/-! ### THE ROW's STEP: WRITTEN OUT: LEAVE IT -/
set_option maxRecDepth 100000 in
theorem lifted (os : Os) (started : os.Started) (H : Type) (enc : TypeId × Value → H) :
    ReturnsInHanded {} Try.checked os 12 .any (Rows.fnArgRRotateSpec.pre6 enc Try.prog Try.f12 Rows.fnArgRRotateRow.domain false) (Rows.fnArgRRotateSpec.post enc Try.prog Try.f12 false true false false) := by
  refine returnsInHanded_of_change (C := Try.checked) own started (by kernel_rfl) Try.func12
    (ChangeSpec.witness6 (enc := enc) (C := Try.checked) false ⟨#[], #[.int .u32 0], []⟩ 8 (by kernel_rfl) (by kernel_rfl) (by kernel_rfl) (by kernel_rfl)) ?_
  intro W base args ds gs before hval0 hW hcnd _
  have hval : ∀ (j : Nat) t v, Try.f12.params[j]? = some t → args[j]? = some v → Value.okWide Try.prog W .any base t v := hval0
  have hW' := hW
  obtain ⟨p, q, hA0, hV, rfl, hfz, hnd⟩ := hW
  have hA : DataW.TrodAll enc Try.prog W 0 (fun _ => true) true Try.f12.params.toList args.toList ds p := hA0
  rw [Try.params12] at hA hval
  obtain ⟨v0, vs0, d0, ds0, p0, q0, hargs, rfl, rfl, h0, r0⟩ := trodAll_cons hA
  obtain ⟨rfl, rfl, rfl⟩ := trodAll_nil r0
  obtain rfl : args = #[v0] := by cases args; simp_all
  obtain ⟨rfl, rfl⟩ := trodVars_none hV
  obtain ⟨a0, rfl, rfl, rfl, w0⟩ := open_int Try.underlying22 (hval 0 22 v0 rfl rfl) h0
  clear hA0 hval0
  simp only [List.append_nil] at hW'
  refine (walk a0 w0 W).mono fun e W' ⟨he, hg⟩ => ?_
  subst he
  exact ⟨_, rfl, post_of_same (pa := []) (pv := []) hW' (fun _ _ _ => (trodAll_cons_mk (shut_bool Try.underlying4 _) trodAll_mk0)) (fun sp _ => (trodAll_cons_mk (shut_int Try.underlying22 w0) trodAll_mk0)) (fun _ _ => rfl) rfl
    (hg.frame _) hg.2.1 (ok_one (by kernel_rfl) rfl (okWide_bool_mk Try.underlying4 _))⟩

theorem over : Rows.fnArgRRotateRow.holds Try.pinned (OpenSpec.ofChange Rows.fnArgRRotateSpec) :=
  OpenClaim.holds_of_wide 12 Try.f12 rfl rfl rfl rfl rfl rfl rfl ⟨rfl, rfl, rfl, rfl, rfl⟩ rfl rfl rfl rfl rfl (by kernel_rfl) Try.func12 (by kernel_rfl)
    (of_decide_eq_true (by kernel_rfl)) (by unfold Func.isWrapper; first | (rw [if_pos (by decide +kernel)]; kernel_rfl) | (rw [if_neg (by decide +kernel)]; exact ⟨rfl, rfl⟩))
    (fun os started H enc _ => lifted os started H enc)

/-- THE STATEMENT -/
theorem proved : Rows.FnArgRRotateSaid :=
  over
#print axioms proved
end Go.Proofs.Ytbfcdbadkpibnaa.fnArgRRotate
