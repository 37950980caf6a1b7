/- laws.FnArgSatimm4 returns true for every word x: the argument satimm4 is the number of bits 19 to 16. No conditions.
   The frame of this text was written by the kit's proof-skeleton.mjs; the walk and the lemmas ahead of it are this claim's own. -/
import Derived.Test.YtpigbldoaemamaaRows
import Derived.WalkKit
import Derived.ProofKit
import Derived.OpenShut
import Derived.Test.YtpigbldoaemamaaSpec
namespace Go.Proofs.Ytpigbldoaemamaa.fnArgSatimm4
open Go.ChangeShapes Go.WideShapes Go.ChangeAt Go.RowKit
set_option linter.unusedVariables false      -- a walk need not use every 'w<i>' (that an integer argument fits its kind)

theorem own : ownKnob Try.prog.godebug = none := by kernel_rfl

attribute [local go_sem] m1 m2 m4 m5 m8 m12 m16 m24
set_option maxHeartbeats 2000000 in
set_option maxRecDepth 100000 in
theorem d_satimm4 (x : Int) (hb : 0 ≤ x) (hb' : x ≤ 4294967295) (w : World) :
    Calls Try.prog 44 #[.int .u8 59, .int .u32 x] w fun e w' => e = .returned (.iface 37 (.int .u32 (x / 65536 % 16))) ∧ w = w' := by
  all_goals
    go_enter Try.func44, Try.ntmps44
    go_wp2
  all_goals
    go_ret
    refine ⟨ri ?_, ?_⟩
    all_goals ((try unfold wrap32); first | omega | rfl | trivial)
set_option maxHeartbeats 2000000 in
set_option maxRecDepth 100000 in
theorem arg_satimm4 (x : Int) (hb : 0 ≤ x) (hb' : x ≤ 4294967295) (w : World) :
    Calls Try.prog 25 #[.int .u32 x] w fun e w' => e = .returned (arg8 2 0 (x / 65536 % 16) 0 0 0 0 0) ∧ Grown w w' := by
  go_enter Try.func25, Try.ntmps25
  go_wp2_with (first | (go_at_call 44; refine (d_satimm4 x hb hb' _).mono ?_; rintro e w1 ⟨rfl, rfl⟩) | (go_at_call 39; refine (argOf_imm (x / 65536 % 16) (by omega) (by omega) _).mono ?_; rintro e w1 ⟨rfl, rfl⟩) | go_in)
  exact bodyPost_ret (v := arg8 2 0 (x / 65536 % 16) 0 0 0 0 0) (by simp [results, Try.results25, go_sem]) rfl ⟨rfl, (by repeat (first | with_reducible exact Grown.refl _ | with_reducible apply grown_drewN | with_reducible apply Grown.drew | with_reducible apply Grown.alloc | with_reducible apply grown_set | with_reducible apply grown_set1))⟩
set_option maxHeartbeats 4000000 in
set_option maxRecDepth 100000 in
theorem walk (a0 : Int) (w0 : (Lit.int .u32 a0).wf = true) (w : World) :
    Calls Try.prog 7 #[.int .u32 a0] w fun e w' => e = .returned (.bool true) ∧ Grown w w' := by
  obtain ⟨hb, hb'⟩ := bounds_u32 w0
  go_enter Try.func7, Try.ntmps7
  go_wp2_with fail
  refine (arg_satimm4 a0 hb hb' _).mono ?_
  rintro e w1' ⟨rfl, g1⟩
  have G1 := Lib.hid g1; clear g1
  go_wp2_with fail
  refine (F_16_4 a0 hb hb' _).mono ?_
  rintro e w2' ⟨rfl, n2, rfl⟩
  go_wp2_with fail
  refine (N_c _ _).mono ?_
  rintro e w3' ⟨rfl, rfl⟩
  go_wp2
  go_ret
  exact ⟨rfl, grown_trans (by repeat (first | with_reducible exact Grown.refl _ | with_reducible apply grown_drewN | with_reducible apply Grown.drew | with_reducible apply Grown.alloc | with_reducible apply grown_set | with_reducible apply grown_set1)) (grown_trans (G1.out) ((by repeat (first | with_reducible exact Grown.refl _ | with_reducible apply grown_drewN | with_reducible apply Grown.drew | with_reducible apply Grown.alloc | with_reducible apply grown_set | with_reducible apply grown_set1))))⟩

/-! ### THE ROW's STEP: WRITTEN OUT: LEAVE IT -/
set_option maxRecDepth 100000 in
theorem lifted (os : Os) (started : os.Started) (H : Type) (enc : TypeId × Value → H) :
    ReturnsInHanded {} Try.checked os 7 .any (Rows.fnArgSatimm4Spec.pre6 enc Try.prog Try.f7 Rows.fnArgSatimm4Row.domain false) (Rows.fnArgSatimm4Spec.post enc Try.prog Try.f7 false true false false) := by
  refine returnsInHanded_of_change (C := Try.checked) own started (by kernel_rfl) Try.func7
    (ChangeSpec.witness6 (enc := enc) (C := Try.checked) false ⟨#[], #[.int .u32 0], []⟩ 8 (by kernel_rfl) (by kernel_rfl) (by kernel_rfl) (by kernel_rfl)) ?_
  intro W base args ds gs before hval0 hW hcnd _
  have hval : ∀ (j : Nat) t v, Try.f7.params[j]? = some t → args[j]? = some v → Value.okWide Try.prog W .any base t v := hval0
  have hW' := hW
  obtain ⟨p, q, hA0, hV, rfl, hfz, hnd⟩ := hW
  have hA : DataW.TrodAll enc Try.prog W 0 (fun _ => true) true Try.f7.params.toList args.toList ds p := hA0
  rw [Try.params7] at hA hval
  obtain ⟨v0, vs0, d0, ds0, p0, q0, hargs, rfl, rfl, h0, r0⟩ := trodAll_cons hA
  obtain ⟨rfl, rfl, rfl⟩ := trodAll_nil r0
  obtain rfl : args = #[v0] := by cases args; simp_all
  obtain ⟨rfl, rfl⟩ := trodVars_none hV
  obtain ⟨a0, rfl, rfl, rfl, w0⟩ := open_int Try.underlying22 (hval 0 22 v0 rfl rfl) h0
  clear hA0 hval0
  simp only [List.append_nil] at hW'
  refine (walk a0 w0 W).mono fun e W' ⟨he, hg⟩ => ?_
  subst he
  exact ⟨_, rfl, post_of_same (pa := []) (pv := []) hW' (fun _ _ _ => (trodAll_cons_mk (shut_bool Try.underlying4 _) trodAll_mk0)) (fun sp _ => (trodAll_cons_mk (shut_int Try.underlying22 w0) trodAll_mk0)) (fun _ _ => rfl) rfl
    (hg.frame _) hg.2.1 (ok_one (by kernel_rfl) rfl (okWide_bool_mk Try.underlying4 _))⟩

theorem over : Rows.fnArgSatimm4Row.holds Try.pinned (OpenSpec.ofChange Rows.fnArgSatimm4Spec) :=
  OpenClaim.holds_of_wide 7 Try.f7 rfl rfl rfl rfl rfl rfl rfl ⟨rfl, rfl, rfl, rfl, rfl⟩ rfl rfl rfl rfl rfl (by kernel_rfl) Try.func7 (by kernel_rfl)
    (of_decide_eq_true (by kernel_rfl)) (by unfold Func.isWrapper; first | (rw [if_pos (by decide +kernel)]; kernel_rfl) | (rw [if_neg (by decide +kernel)]; exact ⟨rfl, rfl⟩))
    (fun os started H enc _ => lifted os started H enc)

/-- THE STATEMENT -/
theorem proved : Rows.FnArgSatimm4Said :=
  over
#print axioms proved
end Go.Proofs.Ytpigbldoaemamaa.fnArgSatimm4
