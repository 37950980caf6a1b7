/- laws.FnArgMemRPmRW returns true for every word x: the argument is the address of the register of bits 19 to 16 and that of bits 3 to 0, by the bits 24, 23 and 21; there is none where 24 is 0 and 21 is 1. No conditions.
   The frame of this text was written by the kit's proof-skeleton.mjs; the walk and the lemmas ahead of it are this claim's own. -/
import Derived.Test.YtkickdebbbdpiaaRows
import Derived.WalkKit
import Derived.ProofKit
import Derived.OpenShut
import Derived.Test.YtkickdebbbdpiaaMemRs
namespace Go.Proofs.Ytkickdebbbdpiaa.fnArgMemRPmRW
open Go.ChangeShapes Go.WideShapes Go.ChangeAt Go.RowKit
set_option linter.unusedVariables false      -- a walk need not use every 'w<i>' (that an integer argument fits its kind)

theorem own : ownKnob Try.prog.godebug = none := by kernel_rfl

attribute [local go_sem] m1 m2 m4 m5 m8 m12 m16 m24
set_option maxHeartbeats 2000000 in
set_option maxRecDepth 100000 in
theorem d_rW_0 (x : Int) (hb : 0 ≤ x) (hb' : x ≤ 4294967295) (h : modeS x = 0) (w : World) :
    Calls Try.prog 38 #[.int .u8 44, .int .u32 x] w fun e w' => e = .returned (.nilIface) ∧ w = w' := by
  obtain ⟨a0, a1⟩ := andNot_bd x 4064
  have f24 : (bits .andNot .u32 x 4064) / 16777216 % 2 = x / 16777216 % 2 := keepN 4064 24 1 (by decide) x hb hb' (by decide)
  have f21 : (bits .andNot .u32 x 4064) / 2097152 % 2 = x / 2097152 % 2 := keepN 4064 21 1 (by decide) x hb hb' (by decide)
  have eM : modeS (bits .andNot .u32 x 4064) = modeS x := by unfold modeS; rw [f24, f21]
  have HB := Lib.hid (d_rs_0 (bits .andNot .u32 x 4064) a0 a1 (eM.trans h))
  clear eM h f24 f21 a0 a1
  go_enter Try.func38, Try.ntmps38
  go_wp2_with fail
  refine (HB.out _).mono ?_
  rintro e w1 ⟨rfl, rfl⟩
  go_wp2
  go_ret
  exact ⟨rfl, rfl⟩
set_option maxHeartbeats 2000000 in
set_option maxRecDepth 100000 in
theorem d_rW_1 (x : Int) (hb : 0 ≤ x) (hb' : x ≤ 4294967295) (h : 1 ≤ modeS x) (w : World) :
    Calls Try.prog 38 #[.int .u8 44, .int .u32 x] w fun e w' => e = .returned (.iface 53 (.agg #[.int .u8 (x / 65536 % 16), .int .u8 (modeS x), .int .i8 (pmV x 1), .int .u8 (x % 16), .int .u8 (0), .int .u8 (0), .int .i16 (0)])) ∧ w = w' := by
  obtain ⟨a0, a1⟩ := andNot_bd x 4064
  have f24 : (bits .andNot .u32 x 4064) / 16777216 % 2 = x / 16777216 % 2 := keepN 4064 24 1 (by decide) x hb hb' (by decide)
  have f21 : (bits .andNot .u32 x 4064) / 2097152 % 2 = x / 2097152 % 2 := keepN 4064 21 1 (by decide) x hb hb' (by decide)
  have f16 : (bits .andNot .u32 x 4064) / 65536 % 16 = x / 65536 % 16 := keepN 4064 16 4 (by decide) x hb hb' (by decide)
  have f23 : (bits .andNot .u32 x 4064) / 8388608 % 2 = x / 8388608 % 2 := keepN 4064 23 1 (by decide) x hb hb' (by decide)
  have eM : modeS (bits .andNot .u32 x 4064) = modeS x := by unfold modeS; rw [f24, f21]
  have B := d_rs_1 (bits .andNot .u32 x 4064) a0 a1 (by rw [eM]; exact h)
  have f0 : (bits .andNot .u32 x 4064) % 16 = x % 16 := by have h := keepN 4064 0 4 (by decide) x hb hb' (by decide); simpa using h
  have f5 : (bits .andNot .u32 x 4064) / 32 % 4 = 0 := zeroN 4064 5 2 (by decide) x hb hb' (by decide)
  have f7 : (bits .andNot .u32 x 4064) / 128 % 32 = 0 := zeroN 4064 7 5 (by decide) x hb hb' (by decide)
  have eP : pmV (bits .andNot .u32 x 4064) 1 = pmV x 1 := by unfold pmV; rw [f23]
  rw [f16, eM, eP, f0, f5, f7, show dsK 0 0 = 0 from rfl, show dsC 0 0 = 0 from rfl] at B
  have HB := Lib.hid B
  clear B eM eP f16 f23 f24 f21 f0 f5 f7 a0 a1
  go_enter Try.func38, Try.ntmps38
  go_wp2_with fail
  refine (HB.out _).mono ?_
  rintro e w1 ⟨rfl, rfl⟩
  go_wp2
  go_ret
  exact ⟨rfl, rfl⟩
set_option maxHeartbeats 2000000 in
set_option maxRecDepth 100000 in
theorem arg_rW_0 (x : Int) (hb : 0 ≤ x) (hb' : x ≤ 4294967295) (h : modeS x = 0) (w : World) :
    Calls Try.prog 30 #[.int .u32 x] w fun e w' => e = .returned (arg8 0 0 0 0 0 0 0 0) ∧ Grown w w' := by
  have HH := Lib.hid h
  clear h
  go_enter Try.func30, Try.ntmps30
  go_wp2_with (first | (go_at_call 38; refine (d_rW_0 x hb hb' HH.out _).mono ?_; rintro e w1 ⟨rfl, rfl⟩) | (go_at_call 31; refine (argOf_nil  _).mono ?_; rintro e w1 ⟨rfl, rfl⟩) | go_in)
  exact bodyPost_ret (v := arg8 0 0 0 0 0 0 0 0) (by simp [results, Try.results30, go_sem]) rfl ⟨rfl, (by repeat (first | with_reducible exact Grown.refl _ | with_reducible apply grown_drewN | with_reducible apply Grown.drew | with_reducible apply Grown.alloc | with_reducible apply grown_set | with_reducible apply grown_set1))⟩
set_option maxHeartbeats 2000000 in
set_option maxRecDepth 100000 in
theorem arg_rW_1 (x : Int) (hb : 0 ≤ x) (hb' : x ≤ 4294967295) (h : 1 ≤ modeS x) (w : World) :
    Calls Try.prog 30 #[.int .u32 x] w fun e w' => e = .returned (arg8 6 (x / 65536 % 16) 0 0 0 (modeS x) (pmV x 1) (x % 16)) ∧ Grown w w' := by
  obtain ⟨q0, q1⟩ := modeS_bd x
  obtain ⟨k0, k1⟩ := dsK_bd x
  obtain ⟨c0, c1⟩ := dsC_bd x
  obtain ⟨p0, p1⟩ : -1 ≤ pmV x 1 ∧ pmV x 1 ≤ 1 := by unfold pmV; split <;> omega
  go_enter Try.func30, Try.ntmps30
  go_wp2_with (first | (go_at_call 38; refine (d_rW_1 x hb hb' h _).mono ?_; rintro e w1 ⟨rfl, rfl⟩) | (go_at_call 31; refine (argOf_mem (x / 65536 % 16) (modeS x) (pmV x 1) (x % 16) (0) (0) (0) (by omega) (by omega) (by omega) (by omega) (by omega) (by omega) (by omega) (by omega) (by omega) (by omega) (by omega) (by omega) (by omega) (by omega) _).mono ?_; rintro e w1 ⟨rfl, rfl⟩) | go_in)
  exact bodyPost_ret (v := arg8 6 (x / 65536 % 16) 0 0 0 (modeS x) (pmV x 1) (x % 16)) (by simp [results, Try.results30, go_sem]) rfl ⟨rfl, (by repeat (first | with_reducible exact Grown.refl _ | with_reducible apply grown_drewN | with_reducible apply Grown.drew | with_reducible apply Grown.alloc | with_reducible apply grown_set | with_reducible apply grown_set1))⟩
set_option maxHeartbeats 4000000 in
set_option maxRecDepth 100000 in
theorem walk (a0 : Int) (w0 : (Lit.int .u32 a0).wf = true) (w : World) :
    Calls Try.prog 14 #[.int .u32 a0] w fun e w' => e = .returned (.bool true) ∧ Grown w w' := by
  obtain ⟨hb, hb'⟩ := bounds_u32 w0
  by_cases h : modeS a0 = 0
  · have HH := Lib.hid h
    clear h
    go_enter Try.func14, Try.ntmps14
    go_wp2_with fail
    refine (arg_rW_0 a0 hb hb' HH.out _).mono ?_
    rintro e w1' ⟨rfl, g1⟩
    have G1 := Lib.hid g1; clear g1
    go_wp2_with fail
    refine (IdxN_0 a0 hb hb' HH.out _).mono ?_
    rintro e w2' ⟨rfl, g2⟩
    have G2 := Lib.hid g2; clear g2
    go_wp2
    go_ret
    exact ⟨rfl, grown_trans (by repeat (first | with_reducible exact Grown.refl _ | with_reducible apply grown_drewN | with_reducible apply Grown.drew | with_reducible apply Grown.alloc | with_reducible apply grown_set | with_reducible apply grown_set1)) (grown_trans (G1.out) (grown_trans (by repeat (first | with_reducible exact Grown.refl _ | with_reducible apply grown_drewN | with_reducible apply Grown.drew | with_reducible apply Grown.alloc | with_reducible apply grown_set | with_reducible apply grown_set1)) (grown_trans (G2.out) ((by repeat (first | with_reducible exact Grown.refl _ | with_reducible apply grown_drewN | with_reducible apply Grown.drew | with_reducible apply Grown.alloc | with_reducible apply grown_set | with_reducible apply grown_set1))))))⟩
  · have h1 : 1 ≤ modeS a0 := by have := modeS_bd a0; omega
    clear h
    go_enter Try.func14, Try.ntmps14
    go_wp2_with fail
    refine (arg_rW_1 a0 hb hb' h1 _).mono ?_
    rintro e w1' ⟨rfl, g1⟩
    have G1 := Lib.hid g1; clear g1
    go_wp2_with fail
    refine (IdxN_m a0 hb hb' h1 _).mono ?_
    rintro e w2' ⟨rfl, g2⟩
    have G2 := Lib.hid g2; clear g2
    go_wp2
    go_ret
    exact ⟨rfl, grown_trans (by repeat (first | with_reducible exact Grown.refl _ | with_reducible apply grown_drewN | with_reducible apply Grown.drew | with_reducible apply Grown.alloc | with_reducible apply grown_set | with_reducible apply grown_set1)) (grown_trans (G1.out) (grown_trans (by repeat (first | with_reducible exact Grown.refl _ | with_reducible apply grown_drewN | with_reducible apply Grown.drew | with_reducible apply Grown.alloc | with_reducible apply grown_set | with_reducible apply grown_set1)) (grown_trans (G2.out) ((by repeat (first | with_reducible exact Grown.refl _ | with_reducible apply grown_drewN | with_reducible apply Grown.drew | with_reducible apply Grown.alloc | with_reducible apply grown_set | with_reducible apply grown_set1))))))⟩

/-! ### THE ROW's STEP: WRITTEN OUT: LEAVE IT -/
set_option maxRecDepth 100000 in
theorem lifted (os : Os) (started : os.Started) (H : Type) (enc : TypeId × Value → H) :
    ReturnsInHanded {} Try.checked os 14 .any (Rows.fnArgMemRPmRWSpec.pre6 enc Try.prog Try.f14 Rows.fnArgMemRPmRWRow.domain false) (Rows.fnArgMemRPmRWSpec.post enc Try.prog Try.f14 false true false false) := by
  refine returnsInHanded_of_change (C := Try.checked) own started (by kernel_rfl) Try.func14
    (ChangeSpec.witness6 (enc := enc) (C := Try.checked) false ⟨#[], #[.int .u32 0], []⟩ 8 (by kernel_rfl) (by kernel_rfl) (by kernel_rfl) (by kernel_rfl)) ?_
  intro W base args ds gs before hval0 hW hcnd _
  have hval : ∀ (j : Nat) t v, Try.f14.params[j]? = some t → args[j]? = some v → Value.okWide Try.prog W .any base t v := hval0
  have hW' := hW
  obtain ⟨p, q, hA0, hV, rfl, hfz, hnd⟩ := hW
  have hA : DataW.TrodAll enc Try.prog W 0 (fun _ => true) true Try.f14.params.toList args.toList ds p := hA0
  rw [Try.params14] at hA hval
  obtain ⟨v0, vs0, d0, ds0, p0, q0, hargs, rfl, rfl, h0, r0⟩ := trodAll_cons hA
  obtain ⟨rfl, rfl, rfl⟩ := trodAll_nil r0
  obtain rfl : args = #[v0] := by cases args; simp_all
  obtain ⟨rfl, rfl⟩ := trodVars_none hV
  obtain ⟨a0, rfl, rfl, rfl, w0⟩ := open_int Try.underlying22 (hval 0 22 v0 rfl rfl) h0
  clear hA0 hval0
  simp only [List.append_nil] at hW'
  refine (walk a0 w0 W).mono fun e W' ⟨he, hg⟩ => ?_
  subst he
  exact ⟨_, rfl, post_of_same (pa := []) (pv := []) hW' (fun _ _ _ => (trodAll_cons_mk (shut_bool Try.underlying4 _) trodAll_mk0)) (fun sp _ => (trodAll_cons_mk (shut_int Try.underlying22 w0) trodAll_mk0)) (fun _ _ => rfl) rfl
    (hg.frame _) hg.2.1 (ok_one (by kernel_rfl) rfl (okWide_bool_mk Try.underlying4 _))⟩

theorem over : Rows.fnArgMemRPmRWRow.holds Try.pinned (OpenSpec.ofChange Rows.fnArgMemRPmRWSpec) :=
  OpenClaim.holds_of_wide 14 Try.f14 rfl rfl rfl rfl rfl rfl rfl ⟨rfl, rfl, rfl, rfl, rfl⟩ rfl rfl rfl rfl rfl (by kernel_rfl) Try.func14 (by kernel_rfl)
    (of_decide_eq_true (by kernel_rfl)) (by unfold Func.isWrapper; first | (rw [if_pos (by decide +kernel)]; kernel_rfl) | (rw [if_neg (by decide +kernel)]; exact ⟨rfl, rfl⟩))
    (fun os started H enc _ => lifted os started H enc)

/-- THE STATEMENT -/
theorem proved : Rows.FnArgMemRPmRWSaid :=
  over
#print axioms proved
end Go.Proofs.Ytkickdebbbdpiaa.fnArgMemRPmRW
