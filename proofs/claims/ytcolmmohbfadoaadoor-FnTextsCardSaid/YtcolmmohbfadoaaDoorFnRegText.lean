/- laws.FnRegText returns true for every two bytes a and b: each register has a text of its own, that is not empty (the tied card: the three tables of the library that the row lists read as the program's own text lays them; the walk reads none of them). -/
import Derived.Test.YtcolmmohbfadoaaDoorRows
import Derived.Test.YtcolmmohbfadoaaDoorCards
import Derived.Test.YtcolmmohbfadoaaDoorTie
import Derived.SevenTiedAt
import Derived.WalkKit
import Derived.ProofKit
import Derived.OpenShut
import Derived.LaidMore
import Derived.Stop.Joined
import Derived.WalkSpells
import Derived.WalkLawsBesides
import Derived.Lib.Hide
namespace Go.Proofs.YtcolmmohbfadoaaDoor
open Go.ChangeShapes Go.WideShapes Go.ChangeAt Go.RowKit
def dec (n : Nat) : ByteArray := if n < 10 then ⟨#[UInt8.ofNat (48 + n)]⟩ else ⟨#[UInt8.ofNat (48 + n / 10), UInt8.ofNat (48 + n % 10)]⟩
theorem rstr {a b : ByteArray} (h : a = b) : Ending.returned (.string a) = .returned (.string b) := by rw [h]
theorem digs (n : Nat) (h : n < 10) : (⟨#[48, 49, 50, 51, 52, 53, 54, 55, 56, 57, 97, 98, 99, 100, 101, 102, 103, 104, 105, 106, 107, 108, 109, 110, 111, 112, 113, 114, 115, 116, 117, 118, 119, 120, 121, 122]⟩ : ByteArray).extract n (n + 1) = dec n := by
  have hv : ∀ m, m < 10 → (⟨#[48, 49, 50, 51, 52, 53, 54, 55, 56, 57, 97, 98, 99, 100, 101, 102, 103, 104, 105, 106, 107, 108, 109, 110, 111, 112, 113, 114, 115, 116, 117, 118, 119, 120, 121, 122]⟩ : ByteArray).extract m (m + 1) = dec m := by decide +kernel
  exact hv n h
set_option maxRecDepth 100000 in
set_option maxHeartbeats 400000 in
theorem small_lo (n : Nat) (h1 : n < 10) (w : World) :
    Calls Tryd.prog 23 #[.int .i64 n] w fun e w' => e = .returned (.string (dec n)) ∧ w = w' := by
  go_enter Tryd.func23, Tryd.ntmps23
  go_wp2
  go_ret
  exact ⟨rstr (digs n h1), rfl⟩
theorem smalls (n : Nat) (h0 : 10 ≤ n) (h : n < 32) : (⟨#[48, 48, 48, 49, 48, 50, 48, 51, 48, 52, 48, 53, 48, 54, 48, 55, 48, 56, 48, 57, 49, 48, 49, 49, 49, 50, 49, 51, 49, 52, 49, 53, 49, 54, 49, 55, 49, 56, 49, 57, 50, 48, 50, 49, 50, 50, 50, 51, 50, 52, 50, 53, 50, 54, 50, 55, 50, 56, 50, 57, 51, 48, 51, 49, 51, 50, 51, 51, 51, 52, 51, 53, 51, 54, 51, 55, 51, 56, 51, 57, 52, 48, 52, 49, 52, 50, 52, 51, 52, 52, 52, 53, 52, 54, 52, 55, 52, 56, 52, 57, 53, 48, 53, 49, 53, 50, 53, 51, 53, 52, 53, 53, 53, 54, 53, 55, 53, 56, 53, 57, 54, 48, 54, 49, 54, 50, 54, 51, 54, 52, 54, 53, 54, 54, 54, 55, 54, 56, 54, 57, 55, 48, 55, 49, 55, 50, 55, 51, 55, 52, 55, 53, 55, 54, 55, 55, 55, 56, 55, 57, 56, 48, 56, 49, 56, 50, 56, 51, 56, 52, 56, 53, 56, 54, 56, 55, 56, 56, 56, 57, 57, 48, 57, 49, 57, 50, 57, 51, 57, 52, 57, 53, 57, 54, 57, 55, 57, 56, 57, 57]⟩ : ByteArray).extract (n * 2) (n * 2 + 2) = dec n := by
  have hv : ∀ m, m < 32 → 10 ≤ m → (⟨#[48, 48, 48, 49, 48, 50, 48, 51, 48, 52, 48, 53, 48, 54, 48, 55, 48, 56, 48, 57, 49, 48, 49, 49, 49, 50, 49, 51, 49, 52, 49, 53, 49, 54, 49, 55, 49, 56, 49, 57, 50, 48, 50, 49, 50, 50, 50, 51, 50, 52, 50, 53, 50, 54, 50, 55, 50, 56, 50, 57, 51, 48, 51, 49, 51, 50, 51, 51, 51, 52, 51, 53, 51, 54, 51, 55, 51, 56, 51, 57, 52, 48, 52, 49, 52, 50, 52, 51, 52, 52, 52, 53, 52, 54, 52, 55, 52, 56, 52, 57, 53, 48, 53, 49, 53, 50, 53, 51, 53, 52, 53, 53, 53, 54, 53, 55, 53, 56, 53, 57, 54, 48, 54, 49, 54, 50, 54, 51, 54, 52, 54, 53, 54, 54, 54, 55, 54, 56, 54, 57, 55, 48, 55, 49, 55, 50, 55, 51, 55, 52, 55, 53, 55, 54, 55, 55, 55, 56, 55, 57, 56, 48, 56, 49, 56, 50, 56, 51, 56, 52, 56, 53, 56, 54, 56, 55, 56, 56, 56, 57, 57, 48, 57, 49, 57, 50, 57, 51, 57, 52, 57, 53, 57, 54, 57, 55, 57, 56, 57, 57]⟩ : ByteArray).extract (m * 2) (m * 2 + 2) = dec m := by decide +kernel
  exact hv n h h0
set_option maxRecDepth 100000 in
set_option maxHeartbeats 400000 in
theorem small_hi (n : Nat) (h0 : 10 ≤ n) (h1 : n < 32) (w : World) :
    Calls Tryd.prog 23 #[.int .i64 n] w fun e w' => e = .returned (.string (dec n)) ∧ w = w' := by
  go_enter Tryd.func23, Tryd.ntmps23
  go_wp2
  go_ret
  exact ⟨rstr (smalls n h0 h1), rfl⟩
theorem small_c (n : Nat) (h1 : n < 32) (w : World) :
    Calls Tryd.prog 23 #[.int .i64 n] w fun e w' => e = .returned (.string (dec n)) ∧ w = w' := by
  by_cases h : n < 10
  · exact small_lo n h w
  · exact small_hi n (by omega) h1 w
set_option maxRecDepth 100000 in
set_option maxHeartbeats 400000 in
theorem fmt_c (n : Nat) (h1 : n < 32) (w : World) :
    Calls Tryd.prog 16 #[.int .i64 n, .int .i64 10] w fun e w' => e = .returned (.string (dec n)) ∧ w = w' := by
  go_enter Tryd.func16, Tryd.ntmps16
  go_wp2_with (first | (go_at_call 23; refine (small_c n h1 _).mono ?_; rintro e w1 ⟨rfl, rfl⟩) | go_in)
  go_ret
  exact ⟨rfl, rfl⟩
theorem dec_sz (n : Nat) : (dec n).size ≤ 2 := by
  unfold dec
  split <;> simp [ByteArray.size]
def rtxt (r : Nat) : ByteArray := if r = 13 then ⟨#[83, 80]⟩ else if r = 14 then ⟨#[76, 82]⟩ else if r = 15 then ⟨#[80, 67]⟩ else if r < 16 then ⟨#[82]⟩ ++ dec r else if r < 48 then ⟨#[83]⟩ ++ dec (r - 16) else ⟨#[68]⟩ ++ dec (r - 48)
theorem nums (n : Nat) (h : n < 80) (h3 : n ≠ 13) (h4 : n ≠ 14) (h5 : n ≠ 15) : ((n : Int) == 80) = false ∧ ((n : Int) == 81) = false ∧ ((n : Int) == 82) = false ∧ ((n : Int) == 13) = false ∧ ((n : Int) == 15) = false ∧ ((n : Int) == 14) = false := by
  simp only [beq_eq_false_iff_ne]; omega
set_option maxRecDepth 100000 in
set_option maxHeartbeats 400000 in
theorem reg_r (n : Nat) (h1 : n < 13) (w : World) :
    Calls Tryd.prog 11 #[.int .u8 n] w fun e w' => e = .returned (.string (⟨#[82]⟩ ++ dec n)) ∧ w = w' := by
  obtain ⟨t1, t2, t3, t4, t5, t6⟩ := nums n (by omega) (by omega) (by omega) (by omega)
  have hz := dec_sz n
  go_enter Tryd.func11, Tryd.ntmps11
  go_wp2_with (go_at_call 16; refine (fmt_c n (by omega) _).mono ?_; rintro e w1 ⟨rfl, rfl⟩)
  all_goals (first | omega | (go_ret; exact ⟨rfl, rfl⟩))
set_option maxRecDepth 100000 in
set_option maxHeartbeats 400000 in
theorem reg_s (n : Nat) (h0 : 16 ≤ n) (h1 : n < 48) (w : World) :
    Calls Tryd.prog 11 #[.int .u8 n] w fun e w' => e = .returned (.string (⟨#[83]⟩ ++ dec (n - 16))) ∧ w = w' := by
  obtain ⟨t1, t2, t3, t4, t5, t6⟩ := nums n (by omega) (by omega) (by omega) (by omega)
  have hz := dec_sz (n - 16)
  have C := fmt_c (n - 16) (by omega)
  rw [show ((n - 16 : Nat) : Int) = (n : Int) - 16 from by omega] at C
  have HC := Lib.hid C
  clear C
  go_enter Tryd.func11, Tryd.ntmps11
  go_wp2_with (go_at_call 16; refine (HC.out _).mono ?_; rintro e w1 ⟨rfl, rfl⟩)
  all_goals (first | omega | (go_ret; exact ⟨rfl, rfl⟩))
set_option maxRecDepth 100000 in
set_option maxHeartbeats 400000 in
theorem reg_d (n : Nat) (h0 : 48 ≤ n) (h1 : n < 80) (w : World) :
    Calls Tryd.prog 11 #[.int .u8 n] w fun e w' => e = .returned (.string (⟨#[68]⟩ ++ dec (n - 48))) ∧ w = w' := by
  obtain ⟨t1, t2, t3, t4, t5, t6⟩ := nums n (by omega) (by omega) (by omega) (by omega)
  have hz := dec_sz (n - 48)
  have C := fmt_c (n - 48) (by omega)
  rw [show ((n - 48 : Nat) : Int) = (n : Int) - 48 from by omega] at C
  have HC := Lib.hid C
  clear C
  go_enter Tryd.func11, Tryd.ntmps11
  go_wp2_with (go_at_call 16; refine (HC.out _).mono ?_; rintro e w1 ⟨rfl, rfl⟩)
  all_goals (first | omega | (go_ret; exact ⟨rfl, rfl⟩))
set_option maxHeartbeats 400000 in
theorem reg_c (n : Nat) (h : n < 80) (w : World) :
    Calls Tryd.prog 11 #[.int .u8 n] w fun e w' => e = .returned (.string (rtxt n)) ∧ w = w' := by
  by_cases h13 : n = 13
  · subst h13
    go_enter Tryd.func11, Tryd.ntmps11
    go_wp2
    go_ret
    exact ⟨rfl, rfl⟩
  by_cases h14 : n = 14
  · subst h14
    go_enter Tryd.func11, Tryd.ntmps11
    go_wp2
    go_ret
    exact ⟨rfl, rfl⟩
  by_cases h15 : n = 15
  · subst h15
    go_enter Tryd.func11, Tryd.ntmps11
    go_wp2
    go_ret
    exact ⟨rfl, rfl⟩
  unfold rtxt
  rw [if_neg h13, if_neg h14, if_neg h15]
  by_cases h16 : n < 16
  · rw [if_pos h16]; exact reg_r n (by omega) w
  · rw [if_neg h16]
    by_cases h48 : n < 48
    · rw [if_pos h48]; exact reg_s n (by omega) h48 w
    · rw [if_neg h48]; exact reg_d n (by omega) h w
set_option maxHeartbeats 400000 in
theorem rt_c (n : Nat) (h : n < 80) (w : World) :
    Calls Tryd.prog 5 #[.int .i64 n] w fun e w' => e = .returned (.string (rtxt n)) ∧ w = w' := by
  go_enter Tryd.func5, Tryd.ntmps5
  go_wp2_with fail
  refine (reg_c n h _).mono ?_
  rintro e w1 ⟨rfl, rfl⟩
  go_wp2
  go_ret
  exact ⟨rfl, rfl⟩
set_option maxHeartbeats 400000 in
theorem ro_c (a : Int) (h0 : 0 ≤ a) (h1 : a ≤ 255) (w : World) :
    Calls Tryd.prog 6 #[.int .u8 a] w fun e w' => e = .returned (.int .i64 (a % 80)) ∧ w = w' := by
  go_enter Tryd.func6, Tryd.ntmps6
  go_wp2
  all_goals
    go_ret
    first | exact ⟨rfl, rfl⟩ | exact ⟨congrArg (fun z => Ending.returned (.int .i64 z)) (by omega), rfl⟩
theorem inj0 : ∀ i, i < 80 → ∀ j, j < 80 → ((rtxt i).data.toList == (rtxt j).data.toList) = (i == j) := by decide +kernel
theorem pos0 : ∀ i, i < 80 → 0 < (rtxt i).size := by decide +kernel
theorem inj1 (i j : Nat) (hi : i < 80) (hj : j < 80) : (((rtxt i).toList == (rtxt j).toList) == ((i : Int) == (j : Int))) = true := by
  rw [ByteArray.toList_eq, ByteArray.toList_eq, inj0 i hi j hj]
  by_cases h : i = j
  · subst h; simp
  · have h' : ¬ ((i : Int) = (j : Int)) := by omega
    rw [beq_eq_false_iff_ne.2 h, beq_eq_false_iff_ne.2 h']
    rfl
set_option maxHeartbeats 400000 in
theorem walk (a0 a1 : Int) (w0 : (Lit.int .u8 a0).wf = true) (w1 : (Lit.int .u8 a1).wf = true) (w : World) :
    Calls Tryd.prog 3 #[.int .u8 a0, .int .u8 a1] w fun e w' => e = .returned (.bool true) ∧ Grown w w' := by
  obtain ⟨hb, hb'⟩ := bounds_u8 w0
  obtain ⟨hc, hc'⟩ := bounds_u8 w1
  have A := ro_c a0 hb hb'
  have B := ro_c a1 hc hc'
  obtain ⟨i, hi⟩ : ∃ i : Nat, a0 % 80 = (i : Int) := ⟨(a0 % 80).toNat, by omega⟩
  obtain ⟨j, hj⟩ : ∃ j : Nat, a1 % 80 = (j : Int) := ⟨(a1 % 80).toNat, by omega⟩
  have li : i < 80 := by omega
  have lj : j < 80 := by omega
  rw [hi] at A
  rw [hj] at B
  have HA := Lib.hid A
  have HB := Lib.hid B
  clear A B
  have CA := Lib.hid (rt_c i li)
  have CB := Lib.hid (rt_c j lj)
  have hE := inj1 i j li lj
  have hz := pos0 i li
  go_enter Tryd.func3, Tryd.ntmps3
  go_wp2_with fail
  refine (HA.out _).mono ?_
  rintro e w1 ⟨rfl, rfl⟩
  go_wp2_with fail
  refine (CA.out _).mono ?_
  rintro e w1 ⟨rfl, rfl⟩
  go_wp2_with fail
  refine (HB.out _).mono ?_
  rintro e w1 ⟨rfl, rfl⟩
  go_wp2_with fail
  refine (CB.out _).mono ?_
  rintro e w1 ⟨rfl, rfl⟩
  go_wp2
  go_ret
  exact ⟨rfl, Grown.refl _⟩

theorem own : ownKnob Tryd.prog.godebug = none := by kernel_rfl
theorem door_met (os : Os) (args : Array Value) : laidMetH Tryd.prog Rows.fnRegTextRow.laid ((World.doorLaid Tryd.prog 400 os).forCall (fun _ _ => 0) ⟨#[], args, []⟩).memory :=
  laidMetH_of_parts3 (fuel := 8) (laidMet_of_run' 8 (by kernel_rfl) (by kernel_rfl)) (by kernel_rfl) (by kernel_rfl)
set_option maxRecDepth 100000 in
theorem lifted (os : Os) (started : os.Started) (H : Type) (enc : TypeId × Value → H) :
    ReturnsInHanded {} Tryd.checked os 3 .any (fun w args => (Rows.fnRegTextSpec.pre enc Tryd.prog Tryd.f3 [] false w args ∧ laidMetH Tryd.prog Rows.fnRegTextRow.laid w) ∧ sizedMet enc Tryd.prog Tryd.f3 (OpenSpec.ofChange Rows.fnRegTextSpec) false w args)
      (Rows.fnRegTextSpec.post enc Tryd.prog Tryd.f3 false true false false) := by
  refine returnsInHanded_of_change_and (C := Tryd.checked) (X := fun w _ => laidMetH Tryd.prog Rows.fnRegTextRow.laid w) (fun _ _ _ hh h => h.of_heap hh) own started (by kernel_rfl) Tryd.func3
    (ChangeSpec.witness_shaped (enc := enc) (C := Tryd.checked) (os := os) (X := fun w _ => laidMetH Tryd.prog Rows.fnRegTextRow.laid w) false (World.doorLaid Tryd.prog 400 os) #[.int .u8 0, .int .u8 0] 8 rfl (World.shaped_of_RefB (by kernel_rfl) (by kernel_rfl)) (by kernel_rfl) (by kernel_rfl) (by kernel_rfl) (door_met os _)) ?_
  intro W base args ds gs before hval0 hW _ _ hL _
  have hval : ∀ (j : Nat) t v, Tryd.f3.params[j]? = some t → args[j]? = some v → Value.okWide Tryd.prog W .any base t v := hval0
  have hW' := hW
  obtain ⟨p, q, hA0, hV, rfl, hfz, hnd⟩ := hW
  have hA : DataW.TrodAll enc Tryd.prog W 0 (fun _ => true) true Tryd.f3.params.toList args.toList ds p := hA0
  rw [Tryd.params3] at hA hval
  obtain ⟨v0, vs0, d0, ds0, p0, q0, hargs, rfl, rfl, h0, r0⟩ := trodAll_cons hA
  obtain ⟨v1, vs1, d1, ds1, p1, q1, rfl, rfl, rfl, h1, r1⟩ := trodAll_cons r0
  obtain ⟨rfl, rfl, rfl⟩ := trodAll_nil r1
  obtain rfl : args = #[v0, v1] := by cases args; simp_all
  obtain ⟨rfl, rfl⟩ := trodVars_none hV
  obtain ⟨a0, rfl, rfl, rfl, w0⟩ := open_int Tryd.underlying5 (hval 0 5 v0 rfl rfl) h0
  obtain ⟨a1, rfl, rfl, rfl, w1⟩ := open_int Tryd.underlying5 (hval 1 5 v1 rfl rfl) h1
  clear hA0 hval0
  simp only [List.append_nil] at hW'
  refine (walk a0 a1 w0 w1 W).mono fun e W' ⟨he, hg⟩ => ?_
  subst he
  exact ⟨_, rfl, post_of_same (pa := []) (pv := []) hW' (fun _ _ _ => (trodAll_cons_mk (shut_bool Tryd.underlying4 _) trodAll_mk0)) (fun sp _ => (trodAll_cons_mk (shut_int Tryd.underlying5 w0) (trodAll_cons_mk (shut_int Tryd.underlying5 w1) trodAll_mk0))) (fun _ _ => rfl) rfl
    (hg.frame _) hg.2.1 (ok_one (by kernel_rfl) rfl (okWide_bool_mk Tryd.underlying4 _))⟩
theorem over : Rows.FnRegTextSaid :=
  OpenClaim.holds_of_wide 3 Tryd.f3 rfl rfl rfl rfl rfl rfl rfl ⟨rfl, rfl, rfl, rfl, rfl⟩ rfl rfl rfl rfl rfl (by kernel_rfl) Tryd.func3 (by kernel_rfl)
    (of_decide_eq_true (by kernel_rfl)) (by unfold Func.isWrapper; first | (rw [if_pos (by decide +kernel)]; kernel_rfl) | (rw [if_neg (by decide +kernel)]; exact ⟨rfl, rfl⟩))
    (fun os started H enc _ => lifted os started H enc)
theorem fnRegText_card : Rows.FnRegTextCardSaid :=
  Claim7.holds_tied_plain_at .later [] [.data, .data, .data] true (true, "face14d1867328e6758551b1139dc008cf951ff4df33df22db8c4b8672294aae") false
    over (fun _ h => by cases h) (by kernel_rfl) (fun _ h => by cases h) fnRegText_row_tie rfl ⟨rfl, rfl⟩ (by kernel_rfl) rfl
    (fun f fn hf hfn => by
      obtain rfl : f = 3 := Option.some.inj ((show Tryd.prog.funcNamed "loop.example/pub-g03133/laws.FnRegText" = some 3 by kernel_rfl).symm.trans hf) |>.symm
      obtain rfl : fn = Tryd.f3 := (Option.some.inj (Tryd.func3.symm.trans hfn)).symm
      exact ⟨by kernel_rfl, fun j t ht => by
        rw [Tryd.params3] at ht
        have h3 : t = 5 := by
          rcases j with _ | _ | j
          · simpa using ht.symm
          · simpa using ht.symm
          · simp at ht
        subst h3
        exact (show Tryd.prog.wantsStandIn 5 = false by kernel_rfl)⟩)
    (by kernel_rfl)
#print axioms fnRegText_card
end Go.Proofs.YtcolmmohbfadoaaDoor
