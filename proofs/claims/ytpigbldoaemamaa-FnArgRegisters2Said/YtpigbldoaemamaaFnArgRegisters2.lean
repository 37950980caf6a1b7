/- laws.FnArgRegisters2 returns true for every word x: where two bits at least of bits 15 to 0 are set the argument registers2 is their list. No conditions.
   The frame of this text was written by the kit's proof-skeleton.mjs; the walk and the lemmas ahead of it are this claim's own. -/
import Derived.Test.YtpigbldoaemamaaRows
import Derived.WalkKit
import Derived.ProofKit
import Derived.OpenShut
import Derived.Test.YtpigbldoaemamaaSpec
import Derived.LoopTactic
namespace Go.Proofs.Ytpigbldoaemamaa.fnArgRegisters2
open Go.ChangeShapes Go.WideShapes Go.ChangeAt Go.RowKit
set_option linter.unusedVariables false      -- a walk need not use every 'w<i>' (that an integer argument fits its kind)

theorem own : ownKnob Try.prog.godebug = none := by kernel_rfl

attribute [local go_sem] m1 m2 m4 m5 m8 m12 m16 m24
def popc (y : Int) : Nat → Int
  | 0 => 0
  | k + 1 => popc y k + y / 2 ^ k % 2
theorem popc_bd (y : Int) (k : Nat) : 0 ≤ popc y k ∧ popc y k ≤ k := by
  induction k with
  | zero => simp [popc]
  | succ k ih => unfold popc; omega
theorem popc_hi (y : Int) (h0 : 0 ≤ y) (h1 : y < 65536) (j : Nat) : popc y (16 + j) = popc y 16 := by
  induction j with
  | zero => rfl
  | succ j ih =>
    have hp : (65536 : Int) ≤ 2 ^ (16 + j) := by
      have hq : (0 : Int) < 2 ^ j := Int.pow_pos (by decide)
      rw [Int.pow_add, show (2 : Int) ^ 16 = 65536 from rfl]
      generalize (2 : Int) ^ j = p at *
      omega
    show popc y (16 + j) + y / 2 ^ (16 + j) % 2 = popc y 16
    rw [ih, Int.ediv_eq_zero_of_lt h0 (by omega)]
    simp
theorem popc_one (y : Int) (k : Nat) (h : (y / 2 ^ k % 2 != 0) = true) : popc y k + 1 = popc y (k + 1) := by
  have h1 : y / 2 ^ k % 2 ≠ 0 := by simpa using h
  show _ = popc y k + y / 2 ^ k % 2
  omega
theorem popc_zero (y : Int) (k : Nat) (h : (y / 2 ^ k % 2 != 0) = false) : popc y k = popc y (k + 1) := by
  have h1 : y / 2 ^ k % 2 = 0 := by simpa using h
  show _ = popc y k + y / 2 ^ k % 2
  omega
attribute [local go_sem] im1
set_option maxHeartbeats 1000000 in
theorem Ones_c (n : Int) (h0 : 0 ≤ n) (h1 : n < 65536) (w : World) :
    Calls Try.prog 21 #[.int .i64 n] w fun e w' => e = .returned (.int .i64 (popc n 16)) ∧ w = w' := by
  have HE := Lib.hid (popc_hi n h0 h1 16)
  go_enter Try.func21, Try.ntmps21
  go_wp2
  go_loop [3, 5] (fun o i => ∃ k : Nat, k ≤ 32 ∧ i = .int .i64 k ∧ o = .int .i64 (popc n k)) (fun _ i => 32 - (intOf i).toNat)
  case atStart => exact ⟨0, Nat.zero_le _, rfl, rfl⟩
  case round =>
    obtain ⟨k, hk, rfl, rfl⟩ := hrel
    obtain ⟨p0, p1⟩ := popc_bd n k
    by_cases hlt : k < 32
    · have b0 : 0 ≤ n / 2 ^ k % 2 := Int.emod_nonneg _ (by decide)
      have b1 : n / 2 ^ k % 2 < 2 := Int.emod_lt_of_pos _ (by decide)
      go_wp2
      go_round
      case rel => exact ⟨k + 1, by omega, by go_num, rfl⟩
      case measure => simp [intOf]; omega
    · obtain rfl : k = 32 := by omega
      go_wp2
      go_ret
      exact ⟨rint HE.out, rfl⟩
set_option maxHeartbeats 2000000 in
set_option maxRecDepth 100000 in
theorem d_list2 (x : Int) (hb : 0 ≤ x) (hb' : x ≤ 4294967295) (h2 : 2 ≤ popc (x % 65536) 16) (w : World) :
    Calls Try.prog 44 #[.int .u8 58, .int .u32 x] w fun e w' => e = .returned (.iface 54 (.int .u16 (x % 65536))) ∧ w = w' := by
  go_enter Try.func44, Try.ntmps44
  go_wp2
  go_loop [74, 75] (fun n i => ∃ k : Nat, k ≤ 16 ∧ i = .int .i64 k ∧ n = .int .i64 (popc (x % 65536) k)) (fun _ i => 16 - (intOf i).toNat)
  case atStart => exact ⟨0, Nat.zero_le _, rfl, rfl⟩
  case round =>
    obtain ⟨k, hk, rfl, rfl⟩ := hrel
    by_cases hlt : k < 16
    · obtain ⟨p0, p1⟩ := popc_bd (x % 65536) k
      go_wp2
      · go_round
        case rel => exact ⟨k + 1, by omega, by go_num, congrArg (Value.int .i64) (popc_one _ _ (by assumption))⟩
        case measure => simp [intOf]; omega
      · go_round
        case rel => exact ⟨k + 1, by omega, by go_num, congrArg (Value.int .i64) (popc_zero _ _ (by assumption))⟩
        case measure => simp [intOf]; omega
    · obtain rfl : k = 16 := by omega
      go_wp2
      go_ret
      exact ⟨rfl, rfl⟩
set_option maxHeartbeats 2000000 in
set_option maxRecDepth 100000 in
theorem arg_list2 (x : Int) (hb : 0 ≤ x) (hb' : x ≤ 4294967295) (h2 : 2 ≤ popc (x % 65536) 16) (w : World) :
    Calls Try.prog 22 #[.int .u32 x] w fun e w' => e = .returned (arg8 8 0 (x % 65536) 0 0 0 0 0) ∧ Grown w w' := by
  go_enter Try.func22, Try.ntmps22
  go_wp2_with (first | (go_at_call 44; refine (d_list2 x hb hb' h2 _).mono ?_; rintro e w1 ⟨rfl, rfl⟩) | (go_at_call 39; refine (argOf_list (x % 65536) (by omega) (by omega) _).mono ?_; rintro e w1 ⟨rfl, rfl⟩) | go_in)
  exact bodyPost_ret (v := arg8 8 0 (x % 65536) 0 0 0 0 0) (by simp [results, Try.results22, go_sem]) rfl ⟨rfl, (by repeat (first | with_reducible exact Grown.refl _ | with_reducible apply grown_drewN | with_reducible apply Grown.drew | with_reducible apply Grown.alloc | with_reducible apply grown_set | with_reducible apply grown_set1))⟩
set_option maxHeartbeats 4000000 in
set_option maxRecDepth 100000 in
theorem walk (a0 : Int) (w0 : (Lit.int .u32 a0).wf = true) (w : World) :
    Calls Try.prog 5 #[.int .u32 a0] w fun e w' => e = .returned (.bool true) ∧ Grown w w' := by
  obtain ⟨hb, hb'⟩ := bounds_u32 w0
  by_cases h2 : 2 ≤ popc (a0 % 65536) 16
  · skip
    go_enter Try.func5, Try.ntmps5
    go_wp2_with fail
    refine (F_0_16 a0 hb hb' _).mono ?_
    rintro e w1' ⟨rfl, n1, rfl⟩
    go_wp2_with fail
    refine (Ones_c _ (by omega) (by omega) _).mono ?_
    rintro e w2' ⟨rfl, rfl⟩
    go_wp2_with fail
    refine (arg_list2 a0 hb hb' h2 _).mono ?_
    rintro e w3' ⟨rfl, g3⟩
    have G3 := Lib.hid g3; clear g3
    go_wp2_with fail
    refine (F_0_16 a0 hb hb' _).mono ?_
    rintro e w4' ⟨rfl, n4, rfl⟩
    go_wp2
    go_ret
    exact ⟨rfl, grown_trans (by repeat (first | with_reducible exact Grown.refl _ | with_reducible apply grown_drewN | with_reducible apply Grown.drew | with_reducible apply Grown.alloc | with_reducible apply grown_set | with_reducible apply grown_set1)) (grown_trans (G3.out) ((by repeat (first | with_reducible exact Grown.refl _ | with_reducible apply grown_drewN | with_reducible apply Grown.drew | with_reducible apply Grown.alloc | with_reducible apply grown_set | with_reducible apply grown_set1))))⟩
  · have h3 : popc (a0 % 65536) 16 < 2 := by omega
    clear h2
    go_enter Try.func5, Try.ntmps5
    go_wp2_with fail
    refine (F_0_16 a0 hb hb' _).mono ?_
    rintro e w1' ⟨rfl, n1, rfl⟩
    go_wp2_with fail
    refine (Ones_c _ (by omega) (by omega) _).mono ?_
    rintro e w2' ⟨rfl, rfl⟩
    go_wp2
    go_ret
    exact ⟨rfl, (by repeat (first | with_reducible exact Grown.refl _ | with_reducible apply grown_drewN | with_reducible apply Grown.drew | with_reducible apply Grown.alloc | with_reducible apply grown_set | with_reducible apply grown_set1))⟩

/-! ### THE ROW's STEP: WRITTEN OUT: LEAVE IT -/
set_option maxRecDepth 100000 in
theorem lifted (os : Os) (started : os.Started) (H : Type) (enc : TypeId × Value → H) :
    ReturnsInHanded {} Try.checked os 5 .any (Rows.fnArgRegisters2Spec.pre6 enc Try.prog Try.f5 Rows.fnArgRegisters2Row.domain false) (Rows.fnArgRegisters2Spec.post enc Try.prog Try.f5 false true false false) := by
  refine returnsInHanded_of_change (C := Try.checked) own started (by kernel_rfl) Try.func5
    (ChangeSpec.witness6 (enc := enc) (C := Try.checked) false ⟨#[], #[.int .u32 0], []⟩ 8 (by kernel_rfl) (by kernel_rfl) (by kernel_rfl) (by kernel_rfl)) ?_
  intro W base args ds gs before hval0 hW hcnd _
  have hval : ∀ (j : Nat) t v, Try.f5.params[j]? = some t → args[j]? = some v → Value.okWide Try.prog W .any base t v := hval0
  have hW' := hW
  obtain ⟨p, q, hA0, hV, rfl, hfz, hnd⟩ := hW
  have hA : DataW.TrodAll enc Try.prog W 0 (fun _ => true) true Try.f5.params.toList args.toList ds p := hA0
  rw [Try.params5] at hA hval
  obtain ⟨v0, vs0, d0, ds0, p0, q0, hargs, rfl, rfl, h0, r0⟩ := trodAll_cons hA
  obtain ⟨rfl, rfl, rfl⟩ := trodAll_nil r0
  obtain rfl : args = #[v0] := by cases args; simp_all
  obtain ⟨rfl, rfl⟩ := trodVars_none hV
  obtain ⟨a0, rfl, rfl, rfl, w0⟩ := open_int Try.underlying22 (hval 0 22 v0 rfl rfl) h0
  clear hA0 hval0
  simp only [List.append_nil] at hW'
  refine (walk a0 w0 W).mono fun e W' ⟨he, hg⟩ => ?_
  subst he
  exact ⟨_, rfl, post_of_same (pa := []) (pv := []) hW' (fun _ _ _ => (trodAll_cons_mk (shut_bool Try.underlying4 _) trodAll_mk0)) (fun sp _ => (trodAll_cons_mk (shut_int Try.underlying22 w0) trodAll_mk0)) (fun _ _ => rfl) rfl
    (hg.frame _) hg.2.1 (ok_one (by kernel_rfl) rfl (okWide_bool_mk Try.underlying4 _))⟩

theorem over : Rows.fnArgRegisters2Row.holds Try.pinned (OpenSpec.ofChange Rows.fnArgRegisters2Spec) :=
  OpenClaim.holds_of_wide 5 Try.f5 rfl rfl rfl rfl rfl rfl rfl ⟨rfl, rfl, rfl, rfl, rfl⟩ rfl rfl rfl rfl rfl (by kernel_rfl) Try.func5 (by kernel_rfl)
    (of_decide_eq_true (by kernel_rfl)) (by unfold Func.isWrapper; first | (rw [if_pos (by decide +kernel)]; kernel_rfl) | (rw [if_neg (by decide +kernel)]; exact ⟨rfl, rfl⟩))
    (fun os started H enc _ => lifted os started H enc)

/-- THE STATEMENT -/
theorem proved : Rows.FnArgRegisters2Said :=
  over
#print axioms proved
end Go.Proofs.Ytpigbldoaemamaa.fnArgRegisters2
