/- laws.FnArgConst returns true for every word x: the argument const is the number of bits 7 to 0, turned to the right by twice that of bits 11 to 8. No conditions.
   The frame of this text was written by the kit's proof-skeleton.mjs; the walk and the lemmas ahead of it are this claim's own. -/
import Derived.Test.YtplljlgomameeaaRows
import Derived.WalkKit
import Derived.ProofKit
import Derived.OpenShut
import Derived.Test.YtplljlgomameeaaSpec
namespace Go.Proofs.Ytplljlgomameeaa.fnArgConst
open Go.ChangeShapes Go.WideShapes Go.ChangeAt Go.RowKit
set_option linter.unusedVariables false      -- a walk need not use every 'w<i>' (that an integer argument fits its kind)

theorem own : ownKnob Try.prog.godebug = none := by kernel_rfl

attribute [local go_sem] m1 m2 m4 m5 m8 m12 m16 m24
def tn (v n : Int) : Int := bits .or .u32 (v / 2 ^ n.toNat) (v * 2 ^ (32 - n).toNat % 4294967296)
theorem tn_bd (v n : Int) : 0 ≤ tn v n ∧ tn v n ≤ 4294967295 := or_bd _ _
theorem turned_tn (v n : Int) : turned v n = tn v n := by
  obtain ⟨h0, h1⟩ := tn_bd v n
  show wrap64 (tn v n) = tn v n
  unfold wrap64
  omega
def DPost (x : Int) (w : World) (e : Ending) (w' : World) : Prop :=
  (e = .returned (.iface 40 (.agg #[.int .u8 (x % 256), .int .u8 (x / 256 % 16 * 2)])) ∨ e = .returned (.iface 38 (.int .u32 (tn (x % 256) (x / 256 % 16 * 2))))) ∧ w = w'
def APost (x : Int) (w : World) (e : Ending) (w' : World) : Prop :=
  (e = .returned (arg8 3 0 (tn (x % 256) (x / 256 % 16 * 2)) 0 0 0 0 0) ∨ e = .returned (arg8 2 0 (tn (x % 256) (x / 256 % 16 * 2)) 0 0 0 0 0)) ∧ Grown w w'
set_option maxHeartbeats 4000000 in
set_option maxRecDepth 100000 in
theorem d_const (x : Int) (hb : 0 ≤ x) (hb' : x ≤ 4294967295) (w : World) :
    Calls Try.prog 39 #[.int .u8 25, .int .u32 x] w (DPost x w) := by
  go_enter Try.func39, Try.ntmps39
  go_wp2
  all_goals
    go_ret
    first | exact ⟨Or.inl rfl, rfl⟩ | exact ⟨Or.inr rfl, rfl⟩
set_option maxHeartbeats 1000000 in
theorem zz_const (x : Int) (hb : 0 ≤ x) (hb' : x ≤ 4294967295) (w : World) :
    Calls Try.prog 33 #[.int .u8 25, .int .u32 x] w (DPost x w) := by
  go_enter Try.func33, Try.ntmps33
  go_wp2_with fail
  refine (d_const x hb hb' _).mono ?_
  rintro e w1 ⟨rfl | rfl, rfl⟩
  · go_wp2
    go_ret
    exact ⟨Or.inl rfl, rfl⟩
  · go_wp2
    go_ret
    exact ⟨Or.inr rfl, rfl⟩
set_option maxHeartbeats 1000000 in
set_option maxRecDepth 100000 in
theorem arg_const (x : Int) (hb : 0 ≤ x) (hb' : x ≤ 4294967295) (w : World) :
    Calls Try.prog 18 #[.int .u32 x] w (APost x w) := by
  obtain ⟨t0, t1⟩ := tn_bd (x % 256) (x / 256 % 16 * 2)
  have A := argOf_immalt (x % 256) (x / 256 % 16 * 2) (by omega) (by omega) (by omega) (by omega)
  rw [turned_tn] at A
  have HA := Lib.hid A
  clear A
  go_enter Try.func18, Try.ntmps18
  go_wp2_with fail
  refine (zz_const x hb hb' _).mono ?_
  rintro e w1 ⟨rfl | rfl, rfl⟩
  · go_wp2_with fail
    refine (HA.out _).mono ?_
    rintro e w1 ⟨rfl, rfl⟩
    go_wp2
    exact bodyPost_ret (v := arg8 3 0 (tn (x % 256) (x / 256 % 16 * 2)) 0 0 0 0 0) (by simp [results, Try.results18, go_sem]) rfl ⟨Or.inl rfl, (by repeat (first | with_reducible exact Grown.refl _ | with_reducible apply grown_drewN | with_reducible apply Grown.drew | with_reducible apply Grown.alloc))⟩
  · go_wp2_with fail
    refine (argOf_imm _ t0 t1 _).mono ?_
    rintro e w1 ⟨rfl, rfl⟩
    go_wp2
    exact bodyPost_ret (v := arg8 2 0 (tn (x % 256) (x / 256 % 16 * 2)) 0 0 0 0 0) (by simp [results, Try.results18, go_sem]) rfl ⟨Or.inr rfl, (by repeat (first | with_reducible exact Grown.refl _ | with_reducible apply grown_drewN | with_reducible apply Grown.drew | with_reducible apply Grown.alloc))⟩
theorem turned_c (a0 : Int) (a1 : Int) (hb : 0 ≤ a0) (hb' : a0 ≤ 255) (hc : 0 ≤ a1) (hc' : a1 ≤ 31) (w : World) :
    Calls Try.prog 40 #[.int .i64 a0, .int .i64 a1] w fun e w' => e = .returned (.int .i64 (turned a0 a1)) ∧ ∃ m, w' = w.drewN m := by
  have hm : a1 % 32 = a1 := by omega
  go_enter Try.func40, Try.ntmps40
  go_wp2
  go_quiet (fail)
  go_wp2
  go_ret
  exact ⟨rfl, _, rfl⟩
theorem const_c (x : Int) (hb : 0 ≤ x) (hb' : x ≤ 4294967295) (w : World) :
    Calls Try.prog 34 #[.int .u32 x] w fun e w' => e = .returned (.int .i64 (tn (x % 256) (x / 256 % 16 * 2))) ∧ ∃ m, w' = w.drewN m := by
  have T := turned_c (x % 256) (2 * (x / 256 % 16)) (by omega) (by omega) (by omega) (by omega)
  rw [turned_tn, show tn (x % 256) (2 * (x / 256 % 16)) = tn (x % 256) (x / 256 % 16 * 2) from by rw [Int.mul_comm]] at T
  have HT := Lib.hid T
  clear T
  go_enter Try.func34, Try.ntmps34
  go_wp2_with fail
  refine (F_0_8 x hb hb' _).mono ?_
  rintro e w1 ⟨rfl, n1, rfl⟩
  go_wp2_with fail
  refine (F_8_4 x hb hb' _).mono ?_
  rintro e w1 ⟨rfl, n2, rfl⟩
  go_wp2_with fail
  refine (HT.out _).mono ?_
  rintro e w1 ⟨rfl, n3, rfl⟩
  go_wp2
  go_ret
  exact ⟨rfl, _, rfl⟩
set_option maxHeartbeats 1000000 in
set_option maxRecDepth 100000 in
theorem isc_c (x k : Int) (hk : k = 2 ∨ k = 3) (hb : 0 ≤ x) (hb' : x ≤ 4294967295) (w : World) :
    Calls Try.prog 17 #[.int .u32 x, arg8 k 0 (tn (x % 256) (x / 256 % 16 * 2)) 0 0 0 0 0] w fun e w' => e = .returned (.bool true) ∧ Grown w w' := by
  have C := const_c x hb hb'
  generalize tn (x % 256) (x / 256 % 16 * 2) = t at *
  have HC := Lib.hid C
  clear C
  rcases hk with rfl | rfl
  all_goals
    go_enter Try.func17, Try.ntmps17
    go_wp2_with fail
    go_quiet ((go_at_call 34; exact Calls.quiet_of (HC.out _)))
    go_wp2
    go_ret
    exact ⟨rfl, (by repeat (first | with_reducible exact Grown.refl _ | with_reducible apply grown_drewN | with_reducible apply Grown.drew | with_reducible apply Grown.alloc))⟩
set_option maxHeartbeats 4000000 in
set_option maxRecDepth 100000 in
theorem walk (a0 : Int) (w0 : (Lit.int .u32 a0).wf = true) (w : World) :
    Calls Try.prog 4 #[.int .u32 a0] w fun e w' => e = .returned (.bool true) ∧ Grown w w' := by
  obtain ⟨hb, hb'⟩ := bounds_u32 w0
  go_enter Try.func4, Try.ntmps4
  go_wp2_with fail
  refine (arg_const a0 hb hb' _).mono ?_
  rintro e w1' ⟨rfl | rfl, g1⟩
  · have G1 := Lib.hid g1; clear g1
    go_wp2_with fail
    refine (isc_c a0 3 (Or.inr rfl) hb hb' _).mono ?_
    rintro e w2' ⟨rfl, g2⟩
    have G2 := Lib.hid g2; clear g2
    go_wp2
    go_ret
    exact ⟨rfl, grown_trans G1.out G2.out⟩
  · have G1 := Lib.hid g1; clear g1
    go_wp2_with fail
    refine (isc_c a0 2 (Or.inl rfl) hb hb' _).mono ?_
    rintro e w2' ⟨rfl, g2⟩
    have G2 := Lib.hid g2; clear g2
    go_wp2
    go_ret
    exact ⟨rfl, grown_trans G1.out G2.out⟩

/-! ### THE ROW's STEP: WRITTEN OUT: LEAVE IT -/
set_option maxRecDepth 100000 in
theorem lifted (os : Os) (started : os.Started) (H : Type) (enc : TypeId × Value → H) :
    ReturnsInHanded {} Try.checked os 4 .any (Rows.fnArgConstSpec.pre6 enc Try.prog Try.f4 Rows.fnArgConstRow.domain false) (Rows.fnArgConstSpec.post enc Try.prog Try.f4 false true false false) := by
  refine returnsInHanded_of_change (C := Try.checked) own started (by kernel_rfl) Try.func4
    (ChangeSpec.witness6 (enc := enc) (C := Try.checked) false ⟨#[], #[.int .u32 0], []⟩ 8 (by kernel_rfl) (by kernel_rfl) (by kernel_rfl) (by kernel_rfl)) ?_
  intro W base args ds gs before hval0 hW hcnd _
  have hval : ∀ (j : Nat) t v, Try.f4.params[j]? = some t → args[j]? = some v → Value.okWide Try.prog W .any base t v := hval0
  have hW' := hW
  obtain ⟨p, q, hA0, hV, rfl, hfz, hnd⟩ := hW
  have hA : DataW.TrodAll enc Try.prog W 0 (fun _ => true) true Try.f4.params.toList args.toList ds p := hA0
  rw [Try.params4] at hA hval
  obtain ⟨v0, vs0, d0, ds0, p0, q0, hargs, rfl, rfl, h0, r0⟩ := trodAll_cons hA
  obtain ⟨rfl, rfl, rfl⟩ := trodAll_nil r0
  obtain rfl : args = #[v0] := by cases args; simp_all
  obtain ⟨rfl, rfl⟩ := trodVars_none hV
  obtain ⟨a0, rfl, rfl, rfl, w0⟩ := open_int Try.underlying22 (hval 0 22 v0 rfl rfl) h0
  clear hA0 hval0
  simp only [List.append_nil] at hW'
  refine (walk a0 w0 W).mono fun e W' ⟨he, hg⟩ => ?_
  subst he
  exact ⟨_, rfl, post_of_same (pa := []) (pv := []) hW' (fun _ _ _ => (trodAll_cons_mk (shut_bool Try.underlying4 _) trodAll_mk0)) (fun sp _ => (trodAll_cons_mk (shut_int Try.underlying22 w0) trodAll_mk0)) (fun _ _ => rfl) rfl
    (hg.frame _) hg.2.1 (ok_one (by kernel_rfl) rfl (okWide_bool_mk Try.underlying4 _))⟩

theorem over : Rows.fnArgConstRow.holds Try.pinned (OpenSpec.ofChange Rows.fnArgConstSpec) :=
  OpenClaim.holds_of_wide 4 Try.f4 rfl rfl rfl rfl rfl rfl rfl ⟨rfl, rfl, rfl, rfl, rfl⟩ rfl rfl rfl rfl rfl (by kernel_rfl) Try.func4 (by kernel_rfl)
    (of_decide_eq_true (by kernel_rfl)) (by unfold Func.isWrapper; first | (rw [if_pos (by decide +kernel)]; kernel_rfl) | (rw [if_neg (by decide +kernel)]; exact ⟨rfl, rfl⟩))
    (fun os started H enc _ => lifted os started H enc)

/-- THE STATEMENT -/
theorem proved : Rows.FnArgConstSaid :=
  over
#print axioms proved
end Go.Proofs.Ytplljlgomameeaa.fnArgConst
