/- laws.FnArgRShiftImm returns true for every word x: the argument R_shift_imm is the register of bits 3 to 0, shifted as bits 11 to 5 tell. No conditions.
   The frame of this text was written by the kit's proof-skeleton.mjs; the walk and the lemmas ahead of it are this claim's own. -/
import Derived.Test.YtbfcdbadkpibnaaRows
import Derived.WalkKit
import Derived.ProofKit
import Derived.OpenShut
import Derived.Test.YtbfcdbadkpibnaaSpec
namespace Go.Proofs.Ytbfcdbadkpibnaa.fnArgRShiftImm
open Go.ChangeShapes Go.WideShapes Go.ChangeAt Go.RowKit
set_option linter.unusedVariables false      -- a walk need not use every 'w<i>' (that an integer argument fits its kind)

theorem own : ownKnob Try.prog.godebug = none := by kernel_rfl

attribute [local go_sem] m1 m2 m4 m5 m8 m12 m16 m24
set_option maxHeartbeats 2000000 in
set_option maxRecDepth 100000 in
theorem d_shi_0 (x : Int) (hb : 0 ≤ x) (hb' : x ≤ 4294967295) (h : dsK (x / 32 % 4) (x / 128 % 32) = 0) (h' : dsC (x / 32 % 4) (x / 128 % 32) = 0) (w : World) :
    Calls Try.prog 38 #[.int .u8 16, .int .u32 x] w fun e w' => e = .returned (.iface 36 (.int .u8 (x % 16))) ∧ w = w' := by
  have D := ds_c x hb hb'
  rw [h, h'] at D
  have HD := Lib.hid D
  clear D h h'
  all_goals
    go_enter Try.func38, Try.ntmps38
    go_wp2_with fail
    refine (HD.out _).mono ?_
    rintro e w1 ⟨rfl, rfl⟩
    go_wp2
  all_goals
    go_ret
    refine ⟨ri ?_, ?_⟩
    all_goals ((try unfold wrap32); first | omega | rfl | trivial)
set_option maxHeartbeats 2000000 in
set_option maxRecDepth 100000 in
theorem d_shi_1 (x : Int) (hb : 0 ≤ x) (hb' : x ≤ 4294967295) (h : ¬ (dsK (x / 32 % 4) (x / 128 % 32) = 0 ∧ dsC (x / 32 % 4) (x / 128 % 32) = 0)) (w : World) :
    Calls Try.prog 38 #[.int .u8 16, .int .u32 x] w fun e w' => e = .returned (.iface 43 (.agg #[.int .u8 (x % 16), .int .u8 (dsK (x / 32 % 4) (x / 128 % 32)), .int .u8 (dsC (x / 32 % 4) (x / 128 % 32))])) ∧ w = w' := by
  have D := ds_c x hb hb'
  have k0 := dsK_bd x
  have c0 := dsC_bd x
  generalize dsK (x / 32 % 4) (x / 128 % 32) = K at *
  generalize dsC (x / 32 % 4) (x / 128 % 32) = C at *
  have HD := Lib.hid D
  clear D
  have hc : (K == 0) = false ∨ (K = 0 ∧ (C == 0) = false) := by simp only [beq_eq_false_iff_ne]; omega
  clear h k0 c0
  rcases hc with hk | ⟨rfl, hk⟩
  all_goals
    go_enter Try.func38, Try.ntmps38
    go_wp2_with fail
    refine (HD.out _).mono ?_
    rintro e w1 ⟨rfl, rfl⟩
    go_wp2
  all_goals
    go_ret
    refine ⟨ri3 ?_ ?_ ?_, ?_⟩
    all_goals (first | rfl | omega | trivial)
set_option maxHeartbeats 2000000 in
set_option maxRecDepth 100000 in
theorem arg_shi_0 (x : Int) (hb : 0 ≤ x) (hb' : x ≤ 4294967295) (h : dsK (x / 32 % 4) (x / 128 % 32) = 0) (h' : dsC (x / 32 % 4) (x / 128 % 32) = 0) (w : World) :
    Calls Try.prog 30 #[.int .u32 x] w fun e w' => e = .returned (arg8 1 (x % 16) 0 0 0 0 0 0) ∧ Grown w w' := by
  have HH := Lib.hid h
  have HI := Lib.hid h'
  clear h h'
  go_enter Try.func30, Try.ntmps30
  go_wp2_with (first | (go_at_call 38; refine (d_shi_0 x hb hb' HH.out HI.out _).mono ?_; rintro e w1 ⟨rfl, rfl⟩) | (go_at_call 33; refine (argOf_reg (x % 16) (by omega) (by omega) _).mono ?_; rintro e w1 ⟨rfl, rfl⟩) | go_in)
  exact bodyPost_ret (v := arg8 1 (x % 16) 0 0 0 0 0 0) (by simp [results, Try.results30, go_sem]) rfl ⟨rfl, (by repeat (first | with_reducible exact Grown.refl _ | with_reducible apply grown_drewN | with_reducible apply Grown.drew | with_reducible apply Grown.alloc | with_reducible apply grown_set))⟩
set_option maxHeartbeats 2000000 in
set_option maxRecDepth 100000 in
theorem arg_shi_1 (x : Int) (hb : 0 ≤ x) (hb' : x ≤ 4294967295) (h : ¬ (dsK (x / 32 % 4) (x / 128 % 32) = 0 ∧ dsC (x / 32 % 4) (x / 128 % 32) = 0)) (w : World) :
    Calls Try.prog 30 #[.int .u32 x] w fun e w' => e = .returned (arg8 4 (x % 16) 0 (dsK (x / 32 % 4) (x / 128 % 32)) (dsC (x / 32 % 4) (x / 128 % 32)) 0 0 0) ∧ Grown w w' := by
  obtain ⟨k0, k1⟩ := dsK_bd x
  obtain ⟨c0, c1⟩ := dsC_bd x
  have HH := Lib.hid h
  clear h
  go_enter Try.func30, Try.ntmps30
  go_wp2_with (first | (go_at_call 38; refine (d_shi_1 x hb hb' HH.out _).mono ?_; rintro e w1 ⟨rfl, rfl⟩) | (go_at_call 33; refine (argOf_shift (x % 16) (dsK (x / 32 % 4) (x / 128 % 32)) (dsC (x / 32 % 4) (x / 128 % 32)) (by omega) (by omega) (by omega) (by omega) (by omega) (by omega) _).mono ?_; rintro e w1 ⟨rfl, rfl⟩) | go_in)
  exact bodyPost_ret (v := arg8 4 (x % 16) 0 (dsK (x / 32 % 4) (x / 128 % 32)) (dsC (x / 32 % 4) (x / 128 % 32)) 0 0 0) (by simp [results, Try.results30, go_sem]) rfl ⟨rfl, (by repeat (first | with_reducible exact Grown.refl _ | with_reducible apply grown_drewN | with_reducible apply Grown.drew | with_reducible apply Grown.alloc | with_reducible apply grown_set))⟩
set_option maxHeartbeats 4000000 in
set_option maxRecDepth 100000 in
theorem walk (a0 : Int) (w0 : (Lit.int .u32 a0).wf = true) (w : World) :
    Calls Try.prog 13 #[.int .u32 a0] w fun e w' => e = .returned (.bool true) ∧ Grown w w' := by
  obtain ⟨hb, hb'⟩ := bounds_u32 w0
  by_cases h : dsK (a0 / 32 % 4) (a0 / 128 % 32) = 0 ∧ dsC (a0 / 32 % 4) (a0 / 128 % 32) = 0
  · obtain ⟨h1, h2⟩ := h
    have H1 := Lib.hid h1
    have H2 := Lib.hid h2
    clear h1 h2
    go_enter Try.func13, Try.ntmps13
    go_wp2_with fail
    refine (arg_shi_0 a0 hb hb' H1.out H2.out _).mono ?_
    rintro e w1' ⟨rfl, g1⟩
    have G1 := Lib.hid g1; clear g1
    go_wp2_with fail
    refine (ShR_0 a0 hb hb' H1.out H2.out _).mono ?_
    rintro e w2' ⟨rfl, g2⟩
    have G2 := Lib.hid g2; clear g2
    go_wp2
    go_ret
    exact ⟨rfl, grown_trans (by repeat (first | with_reducible exact Grown.refl _ | with_reducible apply grown_drewN | with_reducible apply Grown.drew | with_reducible apply Grown.alloc | with_reducible apply grown_set)) (grown_trans (G1.out) (grown_trans (by repeat (first | with_reducible exact Grown.refl _ | with_reducible apply grown_drewN | with_reducible apply Grown.drew | with_reducible apply Grown.alloc | with_reducible apply grown_set)) (grown_trans (G2.out) ((by repeat (first | with_reducible exact Grown.refl _ | with_reducible apply grown_drewN | with_reducible apply Grown.drew | with_reducible apply Grown.alloc | with_reducible apply grown_set))))))⟩
  · have HH := Lib.hid h
    clear h
    go_enter Try.func13, Try.ntmps13
    go_wp2_with fail
    refine (arg_shi_1 a0 hb hb' HH.out _).mono ?_
    rintro e w1' ⟨rfl, g1⟩
    have G1 := Lib.hid g1; clear g1
    go_wp2_with fail
    refine (ShR_1 a0 hb hb' HH.out _).mono ?_
    rintro e w2' ⟨rfl, g2⟩
    have G2 := Lib.hid g2; clear g2
    go_wp2
    go_ret
    exact ⟨rfl, grown_trans (by repeat (first | with_reducible exact Grown.refl _ | with_reducible apply grown_drewN | with_reducible apply Grown.drew | with_reducible apply Grown.alloc | with_reducible apply grown_set)) (grown_trans (G1.out) (grown_trans (by repeat (first | with_reducible exact Grown.refl _ | with_reducible apply grown_drewN | with_reducible apply Grown.drew | with_reducible apply Grown.alloc | with_reducible apply grown_set)) (grown_trans (G2.out) ((by repeat (first | with_reducible exact Grown.refl _ | with_reducible apply grown_drewN | with_reducible apply Grown.drew | with_reducible apply Grown.alloc | with_reducible apply grown_set))))))⟩

/-! ### THE ROW's STEP: WRITTEN OUT: LEAVE IT -/
set_option maxRecDepth 100000 in
theorem lifted (os : Os) (started : os.Started) (H : Type) (enc : TypeId × Value → H) :
    ReturnsInHanded {} Try.checked os 13 .any (Rows.fnArgRShiftImmSpec.pre6 enc Try.prog Try.f13 Rows.fnArgRShiftImmRow.domain false) (Rows.fnArgRShiftImmSpec.post enc Try.prog Try.f13 false true false false) := by
  refine returnsInHanded_of_change (C := Try.checked) own started (by kernel_rfl) Try.func13
    (ChangeSpec.witness6 (enc := enc) (C := Try.checked) false ⟨#[], #[.int .u32 0], []⟩ 8 (by kernel_rfl) (by kernel_rfl) (by kernel_rfl) (by kernel_rfl)) ?_
  intro W base args ds gs before hval0 hW hcnd _
  have hval : ∀ (j : Nat) t v, Try.f13.params[j]? = some t → args[j]? = some v → Value.okWide Try.prog W .any base t v := hval0
  have hW' := hW
  obtain ⟨p, q, hA0, hV, rfl, hfz, hnd⟩ := hW
  have hA : DataW.TrodAll enc Try.prog W 0 (fun _ => true) true Try.f13.params.toList args.toList ds p := hA0
  rw [Try.params13] at hA hval
  obtain ⟨v0, vs0, d0, ds0, p0, q0, hargs, rfl, rfl, h0, r0⟩ := trodAll_cons hA
  obtain ⟨rfl, rfl, rfl⟩ := trodAll_nil r0
  obtain rfl : args = #[v0] := by cases args; simp_all
  obtain ⟨rfl, rfl⟩ := trodVars_none hV
  obtain ⟨a0, rfl, rfl, rfl, w0⟩ := open_int Try.underlying22 (hval 0 22 v0 rfl rfl) h0
  clear hA0 hval0
  simp only [List.append_nil] at hW'
  refine (walk a0 w0 W).mono fun e W' ⟨he, hg⟩ => ?_
  subst he
  exact ⟨_, rfl, post_of_same (pa := []) (pv := []) hW' (fun _ _ _ => (trodAll_cons_mk (shut_bool Try.underlying4 _) trodAll_mk0)) (fun sp _ => (trodAll_cons_mk (shut_int Try.underlying22 w0) trodAll_mk0)) (fun _ _ => rfl) rfl
    (hg.frame _) hg.2.1 (ok_one (by kernel_rfl) rfl (okWide_bool_mk Try.underlying4 _))⟩

theorem over : Rows.fnArgRShiftImmRow.holds Try.pinned (OpenSpec.ofChange Rows.fnArgRShiftImmSpec) :=
  OpenClaim.holds_of_wide 13 Try.f13 rfl rfl rfl rfl rfl rfl rfl ⟨rfl, rfl, rfl, rfl, rfl⟩ rfl rfl rfl rfl rfl (by kernel_rfl) Try.func13 (by kernel_rfl)
    (of_decide_eq_true (by kernel_rfl)) (by unfold Func.isWrapper; first | (rw [if_pos (by decide +kernel)]; kernel_rfl) | (rw [if_neg (by decide +kernel)]; exact ⟨rfl, rfl⟩))
    (fun os started H enc _ => lifted os started H enc)

/-- THE STATEMENT -/
theorem proved : Rows.FnArgRShiftImmSaid :=
  over
#print axioms proved
end Go.Proofs.Ytbfcdbadkpibnaa.fnArgRShiftImm
