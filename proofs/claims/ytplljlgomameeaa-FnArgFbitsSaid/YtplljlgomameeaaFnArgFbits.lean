/- laws.FnArgFbits returns true for every word x: where it is not below nought the argument fbits is 16, or 32 where bit 7 is set, less the number of bits 3 to 0 and 5. No conditions.
   The frame of this text was written by the kit's proof-skeleton.mjs; the walk and the lemmas ahead of it are this claim's own. -/
import Derived.Test.YtplljlgomameeaaRows
import Derived.WalkKit
import Derived.ProofKit
import Derived.OpenShut
import Derived.Test.YtplljlgomameeaaSpec
import Derived.Deep.RegionWith
import Derived.IntWalk
namespace Go.Proofs.Ytplljlgomameeaa.fnArgFbits
open Go.ChangeShapes Go.WideShapes Go.ChangeAt Go.RowKit
set_option linter.unusedVariables false      -- a walk need not use every 'w<i>' (that an integer argument fits its kind)

theorem own : ownKnob Try.prog.godebug = none := by kernel_rfl

attribute [local go_sem] m1 m2 m4 m5 m8 m12 m16 m24
set_option maxHeartbeats 2000000 in
set_option maxRecDepth 100000 in
theorem d_fbits (x : Int) (hb : 0 ≤ x) (hb' : x ≤ 4294967295) (hf : x % 16 * 2 + x / 32 % 2 ≤ 16 * (1 + x / 128 % 2)) (w : World) :
    Calls Try.prog 39 #[.int .u8 27, .int .u32 x] w fun e w' => e = .returned (.iface 38 (.int .u32 (16 * (1 + x / 128 % 2) - x % 16 * 2 - x / 32 % 2))) ∧ w = w' := by
  have hO := u32_join 1 (x % 16 * 2) (x / 32 % 2) (by omega) (by omega) (by omega) (by omega) (by omega) (by omega)
  have hs : x / 128 % 2 = 0 ∨ x / 128 % 2 = 1 := by omega
  rcases hs with hs | hs
  all_goals (rw [hs] at hf)
  all_goals
    go_enter Try.func39, Try.ntmps39
    go_wp2
  all_goals
    go_ret
    refine ⟨ri ?_, ?_⟩
    all_goals ((try unfold wrap32); first | omega | rfl | trivial)
set_option maxHeartbeats 2000000 in
set_option maxRecDepth 100000 in
theorem arg_fbits (x : Int) (hb : 0 ≤ x) (hb' : x ≤ 4294967295) (hf : x % 16 * 2 + x / 32 % 2 ≤ 16 * (1 + x / 128 % 2)) (w : World) :
    Calls Try.prog 25 #[.int .u32 x] w fun e w' => e = .returned (arg8 2 0 (16 * (1 + x / 128 % 2) - x % 16 * 2 - x / 32 % 2) 0 0 0 0 0) ∧ Grown w w' := by
  have HF := Lib.hid hf
  go_enter Try.func25, Try.ntmps25
  go_wp2_with (first | (go_at_call 39; refine (d_fbits x hb hb' HF.out _).mono ?_; rintro e w1 ⟨rfl, rfl⟩) | (go_at_call 32; refine (argOf_imm (16 * (1 + x / 128 % 2) - x % 16 * 2 - x / 32 % 2) (by omega) (by omega) _).mono ?_; rintro e w1 ⟨rfl, rfl⟩) | go_in)
  exact bodyPost_ret (v := arg8 2 0 (16 * (1 + x / 128 % 2) - x % 16 * 2 - x / 32 % 2) 0 0 0 0 0) (by simp [results, Try.results25, go_sem]) rfl ⟨rfl, (by repeat (first | with_reducible exact Grown.refl _ | with_reducible apply grown_drewN | with_reducible apply Grown.drew | with_reducible apply Grown.alloc | with_reducible apply grown_set | with_reducible apply grown_set1))⟩
set_option maxHeartbeats 4000000 in
set_option maxRecDepth 100000 in
theorem walk (a0 : Int) (w0 : (Lit.int .u32 a0).wf = true) (w : World) :
    Calls Try.prog 9 #[.int .u32 a0] w fun e w' => e = .returned (.bool true) ∧ Grown w w' := by
  obtain ⟨hb, hb'⟩ := bounds_u32 w0
  have e2 : fld a0 0 4 = a0 % 16 := by simp [fld]
  have e3 : fld a0 5 1 = a0 / 32 % 2 := by simp [fld]
  have hs : a0 / 128 % 2 = 0 ∨ a0 / 128 % 2 = 1 := by omega
  by_cases hf : a0 % 16 * 2 + a0 / 32 % 2 ≤ 16 * (1 + a0 / 128 % 2)
  · have A := arg_fbits a0 hb hb' hf
    rcases hs with hs | hs
    · have e1 : fld a0 7 1 = a0 / 128 % 2 := by simp [fld]
      rw [hs] at A hf e1
      rw [show (16 : Int) * (1 + 0) = 16 from rfl] at A hf
      have HA := Lib.hid A
      clear A
      go_enter Try.func9, Try.ntmps9
      go_wp2_with fail
      go_quiet ((go_at_call 22; exact Calls.quiet_of (F_c _ _ _ hb hb' (by decide) (by decide) (by decide) (by decide) _)))
      go_wp2_with fail
      have u0 : IntKind.i64.wrap 16 = 16 := IntWalk.i64_in _ (by omega)
      have u1 : IntKind.i64.wrap (a0 % 16 * 2) = a0 % 16 * 2 := IntWalk.i64_in _ (by omega)
      have u2 : IntKind.i64.wrap (16 - a0 % 16 * 2) = 16 - a0 % 16 * 2 := IntWalk.i64_in _ (by omega)
      have u3 : IntKind.i64.wrap (16 - a0 % 16 * 2 - a0 / 32 % 2) = 16 - a0 % 16 * 2 - a0 / 32 % 2 := IntWalk.i64_in _ (by omega)
      go_region_with (first | (go_at_call 25; refine (HA.out _).mono ?_; rintro e w1 ⟨rfl, g⟩; have G1 := Lib.hid g; clear g) | (go_at_call 22; refine (F_c _ _ _ hb hb' (by decide) (by decide) (by decide) (by decide) _).mono ?_; rintro e w2 ⟨rfl, n, rfl⟩) | (go_at_call 26; refine (N_c _ _).mono ?_; rintro e w3 ⟨rfl, rfl⟩))
      all_goals
        go_wp2
        go_ret
        exact ⟨rfl, grown_trans (by repeat (first | with_reducible exact Grown.refl _ | with_reducible apply grown_drewN | with_reducible apply Grown.drew | with_reducible apply Grown.alloc | with_reducible apply grown_set | with_reducible apply grown_set1)) (grown_trans (G1.out) (by repeat (first | with_reducible exact Grown.refl _ | with_reducible apply grown_drewN | with_reducible apply Grown.drew | with_reducible apply Grown.alloc | with_reducible apply grown_set | with_reducible apply grown_set1)))⟩
    · have e1 : fld a0 7 1 = a0 / 128 % 2 := by simp [fld]
      rw [hs] at A hf e1
      rw [show (16 : Int) * (1 + 1) = 32 from rfl] at A hf
      have HA := Lib.hid A
      clear A
      go_enter Try.func9, Try.ntmps9
      go_wp2_with fail
      go_quiet ((go_at_call 22; exact Calls.quiet_of (F_c _ _ _ hb hb' (by decide) (by decide) (by decide) (by decide) _)))
      go_wp2_with fail
      have u0 : IntKind.i64.wrap 32 = 32 := IntWalk.i64_in _ (by omega)
      have u1 : IntKind.i64.wrap (a0 % 16 * 2) = a0 % 16 * 2 := IntWalk.i64_in _ (by omega)
      have u2 : IntKind.i64.wrap (32 - a0 % 16 * 2) = 32 - a0 % 16 * 2 := IntWalk.i64_in _ (by omega)
      have u3 : IntKind.i64.wrap (32 - a0 % 16 * 2 - a0 / 32 % 2) = 32 - a0 % 16 * 2 - a0 / 32 % 2 := IntWalk.i64_in _ (by omega)
      go_region_with (first | (go_at_call 25; refine (HA.out _).mono ?_; rintro e w1 ⟨rfl, g⟩; have G1 := Lib.hid g; clear g) | (go_at_call 22; refine (F_c _ _ _ hb hb' (by decide) (by decide) (by decide) (by decide) _).mono ?_; rintro e w2 ⟨rfl, n, rfl⟩) | (go_at_call 26; refine (N_c _ _).mono ?_; rintro e w3 ⟨rfl, rfl⟩))
      all_goals
        go_wp2
        go_ret
        exact ⟨rfl, grown_trans (by repeat (first | with_reducible exact Grown.refl _ | with_reducible apply grown_drewN | with_reducible apply Grown.drew | with_reducible apply Grown.alloc | with_reducible apply grown_set | with_reducible apply grown_set1)) (grown_trans (G1.out) (by repeat (first | with_reducible exact Grown.refl _ | with_reducible apply grown_drewN | with_reducible apply Grown.drew | with_reducible apply Grown.alloc | with_reducible apply grown_set | with_reducible apply grown_set1)))⟩
  · have hs0 : a0 / 128 % 2 = 0 := by omega
    clear hs
    have e1 : fld a0 7 1 = a0 / 128 % 2 := by simp [fld]
    rw [hs0] at hf e1
    have hf' : 16 < a0 % 16 * 2 + a0 / 32 % 2 := by omega
    clear hf
    go_enter Try.func9, Try.ntmps9
    go_wp2_with fail
    go_quiet ((go_at_call 22; exact Calls.quiet_of (F_c _ _ _ hb hb' (by decide) (by decide) (by decide) (by decide) _)))
    go_wp2
    go_ret
    exact ⟨rfl, (by repeat (first | with_reducible exact Grown.refl _ | with_reducible apply grown_drewN | with_reducible apply Grown.drew | with_reducible apply Grown.alloc | with_reducible apply grown_set | with_reducible apply grown_set1))⟩

/-! ### THE ROW's STEP: WRITTEN OUT: LEAVE IT -/
set_option maxRecDepth 100000 in
theorem lifted (os : Os) (started : os.Started) (H : Type) (enc : TypeId × Value → H) :
    ReturnsInHanded {} Try.checked os 9 .any (Rows.fnArgFbitsSpec.pre6 enc Try.prog Try.f9 Rows.fnArgFbitsRow.domain false) (Rows.fnArgFbitsSpec.post enc Try.prog Try.f9 false true false false) := by
  refine returnsInHanded_of_change (C := Try.checked) own started (by kernel_rfl) Try.func9
    (ChangeSpec.witness6 (enc := enc) (C := Try.checked) false ⟨#[], #[.int .u32 0], []⟩ 8 (by kernel_rfl) (by kernel_rfl) (by kernel_rfl) (by kernel_rfl)) ?_
  intro W base args ds gs before hval0 hW hcnd _
  have hval : ∀ (j : Nat) t v, Try.f9.params[j]? = some t → args[j]? = some v → Value.okWide Try.prog W .any base t v := hval0
  have hW' := hW
  obtain ⟨p, q, hA0, hV, rfl, hfz, hnd⟩ := hW
  have hA : DataW.TrodAll enc Try.prog W 0 (fun _ => true) true Try.f9.params.toList args.toList ds p := hA0
  rw [Try.params9] at hA hval
  obtain ⟨v0, vs0, d0, ds0, p0, q0, hargs, rfl, rfl, h0, r0⟩ := trodAll_cons hA
  obtain ⟨rfl, rfl, rfl⟩ := trodAll_nil r0
  obtain rfl : args = #[v0] := by cases args; simp_all
  obtain ⟨rfl, rfl⟩ := trodVars_none hV
  obtain ⟨a0, rfl, rfl, rfl, w0⟩ := open_int Try.underlying22 (hval 0 22 v0 rfl rfl) h0
  clear hA0 hval0
  simp only [List.append_nil] at hW'
  refine (walk a0 w0 W).mono fun e W' ⟨he, hg⟩ => ?_
  subst he
  exact ⟨_, rfl, post_of_same (pa := []) (pv := []) hW' (fun _ _ _ => (trodAll_cons_mk (shut_bool Try.underlying4 _) trodAll_mk0)) (fun sp _ => (trodAll_cons_mk (shut_int Try.underlying22 w0) trodAll_mk0)) (fun _ _ => rfl) rfl
    (hg.frame _) hg.2.1 (ok_one (by kernel_rfl) rfl (okWide_bool_mk Try.underlying4 _))⟩

theorem over : Rows.fnArgFbitsRow.holds Try.pinned (OpenSpec.ofChange Rows.fnArgFbitsSpec) :=
  OpenClaim.holds_of_wide 9 Try.f9 rfl rfl rfl rfl rfl rfl rfl ⟨rfl, rfl, rfl, rfl, rfl⟩ rfl rfl rfl rfl rfl (by kernel_rfl) Try.func9 (by kernel_rfl)
    (of_decide_eq_true (by kernel_rfl)) (by unfold Func.isWrapper; first | (rw [if_pos (by decide +kernel)]; kernel_rfl) | (rw [if_neg (by decide +kernel)]; exact ⟨rfl, rfl⟩))
    (fun os started H enc _ => lifted os started H enc)

/-- THE STATEMENT -/
theorem proved : Rows.FnArgFbitsSaid :=
  over
#print axioms proved
end Go.Proofs.Ytplljlgomameeaa.fnArgFbits
