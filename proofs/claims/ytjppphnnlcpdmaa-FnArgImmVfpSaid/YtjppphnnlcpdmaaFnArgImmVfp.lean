/- laws.FnArgImmVfp returns true for every two words x and y: the argument imm_vfp is the same for words whose bits 19 to 16 and 3 to 0 are the same, and there is one. No conditions.
   The frame of this text was written by the kit's proof-skeleton.mjs; the walk and the lemmas ahead of it are this claim's own. -/
import Derived.Test.YtjppphnnlcpdmaaRows
import Derived.WalkKit
import Derived.ProofKit
import Derived.OpenShut
import Derived.Test.YtjppphnnlcpdmaaSpec
namespace Go.Proofs.Ytjppphnnlcpdmaa.fnArgImmVfp
open Go.ChangeShapes Go.WideShapes Go.ChangeAt Go.RowKit
set_option linter.unusedVariables false      -- a walk need not use every 'w<i>' (that an integer argument fits its kind)

theorem own : ownKnob Try.prog.godebug = none := by kernel_rfl

attribute [local go_sem] m1 m2 m4 m5 m8 m12 m16 m24
set_option maxHeartbeats 2000000 in
set_option maxRecDepth 100000 in
theorem d_vfp (x : Int) (hb : 0 ≤ x) (hb' : x ≤ 4294967295) (w : World) :
    Calls Try.prog 41 #[.int .u8 35, .int .u32 x] w fun e w' => e = .returned (.iface 39 (.int .u32 (x / 65536 % 16 * 16 + x % 16))) ∧ w = w' := by
  have hO := u32_join 4 (x / 65536 % 16 * 16) (x % 16) (by omega) (by omega) (by omega) (by omega) (by omega) (by omega)
  all_goals
    go_enter Try.func41, Try.ntmps41
    go_wp2
  all_goals
    go_ret
    refine ⟨ri ?_, ?_⟩
    all_goals ((try unfold wrap32); first | omega | rfl | trivial)
set_option maxHeartbeats 2000000 in
set_option maxRecDepth 100000 in
theorem arg_vfp (x : Int) (hb : 0 ≤ x) (hb' : x ≤ 4294967295) (w : World) :
    Calls Try.prog 20 #[.int .u32 x] w fun e w' => e = .returned (arg8 2 0 (x / 65536 % 16 * 16 + x % 16) 0 0 0 0 0) ∧ Grown w w' := by
  go_enter Try.func20, Try.ntmps20
  go_wp2_with (first | (go_at_call 41; refine (d_vfp x hb hb' _).mono ?_; rintro e w1 ⟨rfl, rfl⟩) | (go_at_call 35; refine (argOf_imm (x / 65536 % 16 * 16 + x % 16) (by omega) (by omega) _).mono ?_; rintro e w1 ⟨rfl, rfl⟩) | go_in)
  exact bodyPost_ret (v := arg8 2 0 (x / 65536 % 16 * 16 + x % 16) 0 0 0 0 0) (by simp [results, Try.results20, go_sem]) rfl ⟨rfl, (by repeat (first | with_reducible exact Grown.refl _ | with_reducible apply grown_drewN | with_reducible apply Grown.drew | with_reducible apply Grown.alloc | with_reducible apply grown_set | with_reducible apply grown_set1))⟩
theorem keepOw (a n : Nat) (x c : Int) (h0 : 0 ≤ x) (h1 : x ≤ 4294967295) (h2 : 0 ≤ c) (h3 : c ≤ 4294967295) (h : c / 2 ^ a % 2 ^ n = 0) :
    bits .or .u32 x c / 2 ^ a % 2 ^ n = x / 2 ^ a % 2 ^ n := by
  obtain ⟨m, rfl⟩ := Int.eq_ofNat_of_zero_le h2
  exact keepO m a n (by omega) x h0 h1 (by exact_mod_cast h)
theorem same_vfp (x c : Int) (h0 : 0 ≤ x) (h1 : x ≤ 4294967295) (h2 : 0 ≤ c) (h3 : c ≤ 4294967295) (e1 : c / 65536 % 16 = 0) (e2 : c % 16 = 0) :
    bits .or .u32 x c / 65536 % 16 * 16 + bits .or .u32 x c % 16 = x / 65536 % 16 * 16 + x % 16 := by
  have a1 : bits .or .u32 x c / 65536 % 16 = x / 65536 % 16 := keepOw 16 4 x c h0 h1 h2 h3 e1
  have a2 : bits .or .u32 x c % 16 = x % 16 := by
    have h := keepOw 0 4 x c h0 h1 h2 h3 (by simpa using e2)
    simpa using h
  rw [a1, a2]
theorem fieldK (t : Int) (w : World) : (Instr.field 24 (.agg #[.int .i64 2, .int .i64 0, .int .i64 t, .int .i64 0, .int .i64 0, .int .i64 0, .int .i64 0, .int .i64 0]) 0).run Try.prog w = .ok (.int .i64 2) w := by kernel_rfl
attribute [local go_sem] fieldK
set_option maxHeartbeats 4000000 in
set_option maxRecDepth 100000 in
theorem walk (a0 : Int) (a1 : Int) (w0 : (Lit.int .u32 a0).wf = true) (w1 : (Lit.int .u32 a1).wf = true) (w : World) :
    Calls Try.prog 5 #[.int .u32 a0, .int .u32 a1] w fun e w' => e = .returned (.bool true) ∧ Grown w w' := by
  obtain ⟨hb, hb'⟩ := bounds_u32 w0
  obtain ⟨z0, z1⟩ := and_bd a0 983311
  obtain ⟨y0, y1⟩ := and_bd a1 4042322160
  obtain ⟨c0, c1⟩ := andNot_bd (bits .and .u32 a1 4042322160) 983311
  obtain ⟨o0, o1⟩ := or_bd (bits .and .u32 a0 983311) (bits .andNot .u32 (bits .and .u32 a1 4042322160) 983311)
  have e1 : bits .andNot .u32 (bits .and .u32 a1 4042322160) 983311 / 65536 % 16 = 0 := zeroN 983311 16 4 (by decide) (bits .and .u32 a1 4042322160) y0 y1 (by decide)
  have e2 : bits .andNot .u32 (bits .and .u32 a1 4042322160) 983311 % 16 = 0 := by
    have h := zeroN 983311 0 4 (by decide) (bits .and .u32 a1 4042322160) y0 y1 (by decide)
    simpa using h
  have A1 := arg_vfp (bits .and .u32 a0 983311) z0 z1
  have A2 := arg_vfp (bits .or .u32 (bits .and .u32 a0 983311) (bits .andNot .u32 (bits .and .u32 a1 4042322160) 983311)) o0 o1
  rw [same_vfp (bits .and .u32 a0 983311) (bits .andNot .u32 (bits .and .u32 a1 4042322160) 983311) z0 z1 c0 c1 e1 e2] at A2
  have H1 := Lib.hid A1
  have H2 := Lib.hid A2
  clear A1 A2 e1 e2
  go_enter Try.func5, Try.ntmps5
  go_wp2_with fail
  refine (H1.out _).mono ?_
  rintro e w1' ⟨rfl, g1⟩
  have G1 := Lib.hid g1; clear g1
  go_wp2_with fail
  refine (H2.out _).mono ?_
  rintro e w2' ⟨rfl, g2⟩
  have G2 := Lib.hid g2; clear g2
  go_wp2_with fail
  refine (arg_vfp a0 hb hb' _).mono ?_
  rintro e w3' ⟨rfl, g3⟩
  have G3 := Lib.hid g3; clear g3
  go_wp2
  go_ret
  exact ⟨rfl, grown_trans (by repeat (first | with_reducible exact Grown.refl _ | with_reducible apply grown_drewN | with_reducible apply Grown.drew | with_reducible apply Grown.alloc | with_reducible apply grown_set | with_reducible apply grown_set1)) (grown_trans (G1.out) (grown_trans (by repeat (first | with_reducible exact Grown.refl _ | with_reducible apply grown_drewN | with_reducible apply Grown.drew | with_reducible apply Grown.alloc | with_reducible apply grown_set | with_reducible apply grown_set1)) (grown_trans (G2.out) (grown_trans (by repeat (first | with_reducible exact Grown.refl _ | with_reducible apply grown_drewN | with_reducible apply Grown.drew | with_reducible apply Grown.alloc | with_reducible apply grown_set | with_reducible apply grown_set1)) (grown_trans (G3.out) ((by repeat (first | with_reducible exact Grown.refl _ | with_reducible apply grown_drewN | with_reducible apply Grown.drew | with_reducible apply Grown.alloc | with_reducible apply grown_set | with_reducible apply grown_set1))))))))⟩

/-! ### THE ROW's STEP: WRITTEN OUT: LEAVE IT -/
set_option maxRecDepth 100000 in
theorem lifted (os : Os) (started : os.Started) (H : Type) (enc : TypeId × Value → H) :
    ReturnsInHanded {} Try.checked os 5 .any (Rows.fnArgImmVfpSpec.pre6 enc Try.prog Try.f5 Rows.fnArgImmVfpRow.domain false) (Rows.fnArgImmVfpSpec.post enc Try.prog Try.f5 false true false false) := by
  refine returnsInHanded_of_change (C := Try.checked) own started (by kernel_rfl) Try.func5
    (ChangeSpec.witness6 (enc := enc) (C := Try.checked) false ⟨#[], #[.int .u32 0, .int .u32 0], []⟩ 8 (by kernel_rfl) (by kernel_rfl) (by kernel_rfl) (by kernel_rfl)) ?_
  intro W base args ds gs before hval0 hW hcnd _
  have hval : ∀ (j : Nat) t v, Try.f5.params[j]? = some t → args[j]? = some v → Value.okWide Try.prog W .any base t v := hval0
  have hW' := hW
  obtain ⟨p, q, hA0, hV, rfl, hfz, hnd⟩ := hW
  have hA : DataW.TrodAll enc Try.prog W 0 (fun _ => true) true Try.f5.params.toList args.toList ds p := hA0
  rw [Try.params5] at hA hval
  obtain ⟨v0, vs0, d0, ds0, p0, q0, hargs, rfl, rfl, h0, r0⟩ := trodAll_cons hA
  obtain ⟨v1, vs1, d1, ds1, p1, q1, rfl, rfl, rfl, h1, r1⟩ := trodAll_cons r0
  obtain ⟨rfl, rfl, rfl⟩ := trodAll_nil r1
  obtain rfl : args = #[v0, v1] := by cases args; simp_all
  obtain ⟨rfl, rfl⟩ := trodVars_none hV
  obtain ⟨a0, rfl, rfl, rfl, w0⟩ := open_int Try.underlying22 (hval 0 22 v0 rfl rfl) h0
  obtain ⟨a1, rfl, rfl, rfl, w1⟩ := open_int Try.underlying22 (hval 1 22 v1 rfl rfl) h1
  clear hA0 hval0
  simp only [List.append_nil] at hW'
  refine (walk a0 a1 w0 w1 W).mono fun e W' ⟨he, hg⟩ => ?_
  subst he
  exact ⟨_, rfl, post_of_same (pa := []) (pv := []) hW' (fun _ _ _ => (trodAll_cons_mk (shut_bool Try.underlying4 _) trodAll_mk0)) (fun sp _ => (trodAll_cons_mk (shut_int Try.underlying22 w0) (trodAll_cons_mk (shut_int Try.underlying22 w1) trodAll_mk0))) (fun _ _ => rfl) rfl
    (hg.frame _) hg.2.1 (ok_one (by kernel_rfl) rfl (okWide_bool_mk Try.underlying4 _))⟩

theorem over : Rows.fnArgImmVfpRow.holds Try.pinned (OpenSpec.ofChange Rows.fnArgImmVfpSpec) :=
  OpenClaim.holds_of_wide 5 Try.f5 rfl rfl rfl rfl rfl rfl rfl ⟨rfl, rfl, rfl, rfl, rfl⟩ rfl rfl rfl rfl rfl (by kernel_rfl) Try.func5 (by kernel_rfl)
    (of_decide_eq_true (by kernel_rfl)) (by unfold Func.isWrapper; first | (rw [if_pos (by decide +kernel)]; kernel_rfl) | (rw [if_neg (by decide +kernel)]; exact ⟨rfl, rfl⟩))
    (fun os started H enc _ => lifted os started H enc)

/-- THE STATEMENT -/
theorem proved : Rows.FnArgImmVfpSaid :=
  over
#print axioms proved
end Go.Proofs.Ytjppphnnlcpdmaa.fnArgImmVfp
