/- The contracts of the reference's small functions: fields of a word, a register, a number, an address. -/
import Derived.Test.YtpigbldoaemamaaArgOf
import Derived.Test.YtpigbldoaemamaaShift
namespace Go.Proofs.Ytpigbldoaemamaa
open Go.ChangeShapes Go.WideShapes Go.ChangeAt Go.RowKit
set_option linter.unusedVariables false
attribute [local go_sem] im1
def sdv (s v vx : Int) : Int := if s = 1 then 48 + (vx * 16 + v) else 16 + (v * 2 + vx)
def modeS (x : Int) : Int := if x / 16777216 % 2 = 0 then (if x / 2097152 % 2 = 0 then 1 else 0) else (if x / 2097152 % 2 = 1 then 2 else 3)
def pmV (x n : Int) : Int := if x / 8388608 % 2 = 0 then -n else n
def labV (x : Int) : Int := if x / 8388608 % 2 = 1 then 4 * (x % 16777216 - 16777216) else 4 * (x % 16777216)
theorem sdv_bd (s v vx : Int) (h0 : 0 ≤ v) (h1 : v ≤ 15) (h2 : 0 ≤ vx) (h3 : vx ≤ 1) : 0 ≤ sdv s v vx ∧ sdv s v vx ≤ 255 := by unfold sdv; split <;> omega
theorem modeS_bd (x : Int) : 0 ≤ modeS x ∧ modeS x ≤ 3 := by unfold modeS; (repeat' split) <;> omega
theorem pmV_bd (x n : Int) (h0 : 0 ≤ n) (h1 : n ≤ 4095) : -4095 ≤ pmV x n ∧ pmV x n ≤ 4095 := by unfold pmV; split <;> omega
theorem labV_bd (x : Int) : -33554432 ≤ labV x ∧ labV x ≤ 33554431 := by unfold labV; split <;> omega
theorem F_0_4 (x : Int) (hb : 0 ≤ x) (hb' : x ≤ 4294967295) (w : World) :
    Calls Try.prog 19 #[.int .u32 x, .int .i64 0, .int .i64 4] w fun e w' => e = .returned (.int .i64 (x % 16)) ∧ ∃ m, w' = w.drewN m := by
  have h : fld x 0 4 = x % 16 := by simp [fld]
  rw [← h]
  exact F_c x 0 4 hb hb' (by decide) (by decide) (by decide) (by decide) w
theorem F_8_4 (x : Int) (hb : 0 ≤ x) (hb' : x ≤ 4294967295) (w : World) :
    Calls Try.prog 19 #[.int .u32 x, .int .i64 8, .int .i64 4] w fun e w' => e = .returned (.int .i64 (x / 256 % 16)) ∧ ∃ m, w' = w.drewN m := by
  have h : fld x 8 4 = x / 256 % 16 := by simp [fld]
  rw [← h]
  exact F_c x 8 4 hb hb' (by decide) (by decide) (by decide) (by decide) w
theorem F_12_4 (x : Int) (hb : 0 ≤ x) (hb' : x ≤ 4294967295) (w : World) :
    Calls Try.prog 19 #[.int .u32 x, .int .i64 12, .int .i64 4] w fun e w' => e = .returned (.int .i64 (x / 4096 % 16)) ∧ ∃ m, w' = w.drewN m := by
  have h : fld x 12 4 = x / 4096 % 16 := by simp [fld]
  rw [← h]
  exact F_c x 12 4 hb hb' (by decide) (by decide) (by decide) (by decide) w
theorem F_16_4 (x : Int) (hb : 0 ≤ x) (hb' : x ≤ 4294967295) (w : World) :
    Calls Try.prog 19 #[.int .u32 x, .int .i64 16, .int .i64 4] w fun e w' => e = .returned (.int .i64 (x / 65536 % 16)) ∧ ∃ m, w' = w.drewN m := by
  have h : fld x 16 4 = x / 65536 % 16 := by simp [fld]
  rw [← h]
  exact F_c x 16 4 hb hb' (by decide) (by decide) (by decide) (by decide) w
theorem F_21_1 (x : Int) (hb : 0 ≤ x) (hb' : x ≤ 4294967295) (w : World) :
    Calls Try.prog 19 #[.int .u32 x, .int .i64 21, .int .i64 1] w fun e w' => e = .returned (.int .i64 (x / 2097152 % 2)) ∧ ∃ m, w' = w.drewN m := by
  have h : fld x 21 1 = x / 2097152 % 2 := by simp [fld]
  rw [← h]
  exact F_c x 21 1 hb hb' (by decide) (by decide) (by decide) (by decide) w
theorem F_7_1 (x : Int) (hb : 0 ≤ x) (hb' : x ≤ 4294967295) (w : World) :
    Calls Try.prog 19 #[.int .u32 x, .int .i64 7, .int .i64 1] w fun e w' => e = .returned (.int .i64 (x / 128 % 2)) ∧ ∃ m, w' = w.drewN m := by
  have h : fld x 7 1 = x / 128 % 2 := by simp [fld]
  rw [← h]
  exact F_c x 7 1 hb hb' (by decide) (by decide) (by decide) (by decide) w
theorem F_4_6 (x : Int) (hb : 0 ≤ x) (hb' : x ≤ 4294967295) (w : World) :
    Calls Try.prog 19 #[.int .u32 x, .int .i64 4, .int .i64 6] w fun e w' => e = .returned (.int .i64 (x / 16 % 64)) ∧ ∃ m, w' = w.drewN m := by
  have h : fld x 4 6 = x / 16 % 64 := by simp [fld]
  rw [← h]
  exact F_c x 4 6 hb hb' (by decide) (by decide) (by decide) (by decide) w
theorem F_10_2 (x : Int) (hb : 0 ≤ x) (hb' : x ≤ 4294967295) (w : World) :
    Calls Try.prog 19 #[.int .u32 x, .int .i64 10, .int .i64 2] w fun e w' => e = .returned (.int .i64 (x / 1024 % 4)) ∧ ∃ m, w' = w.drewN m := by
  have h : fld x 10 2 = x / 1024 % 4 := by simp [fld]
  rw [← h]
  exact F_c x 10 2 hb hb' (by decide) (by decide) (by decide) (by decide) w
theorem F_5_2 (x : Int) (hb : 0 ≤ x) (hb' : x ≤ 4294967295) (w : World) :
    Calls Try.prog 19 #[.int .u32 x, .int .i64 5, .int .i64 2] w fun e w' => e = .returned (.int .i64 (x / 32 % 4)) ∧ ∃ m, w' = w.drewN m := by
  have h : fld x 5 2 = x / 32 % 4 := by simp [fld]
  rw [← h]
  exact F_c x 5 2 hb hb' (by decide) (by decide) (by decide) (by decide) w
theorem F_22_1 (x : Int) (hb : 0 ≤ x) (hb' : x ≤ 4294967295) (w : World) :
    Calls Try.prog 19 #[.int .u32 x, .int .i64 22, .int .i64 1] w fun e w' => e = .returned (.int .i64 (x / 4194304 % 2)) ∧ ∃ m, w' = w.drewN m := by
  have h : fld x 22 1 = x / 4194304 % 2 := by simp [fld]
  rw [← h]
  exact F_c x 22 1 hb hb' (by decide) (by decide) (by decide) (by decide) w
theorem F_5_1 (x : Int) (hb : 0 ≤ x) (hb' : x ≤ 4294967295) (w : World) :
    Calls Try.prog 19 #[.int .u32 x, .int .i64 5, .int .i64 1] w fun e w' => e = .returned (.int .i64 (x / 32 % 2)) ∧ ∃ m, w' = w.drewN m := by
  have h : fld x 5 1 = x / 32 % 2 := by simp [fld]
  rw [← h]
  exact F_c x 5 1 hb hb' (by decide) (by decide) (by decide) (by decide) w
theorem F_8_1 (x : Int) (hb : 0 ≤ x) (hb' : x ≤ 4294967295) (w : World) :
    Calls Try.prog 19 #[.int .u32 x, .int .i64 8, .int .i64 1] w fun e w' => e = .returned (.int .i64 (x / 256 % 2)) ∧ ∃ m, w' = w.drewN m := by
  have h : fld x 8 1 = x / 256 % 2 := by simp [fld]
  rw [← h]
  exact F_c x 8 1 hb hb' (by decide) (by decide) (by decide) (by decide) w
theorem F_9_1 (x : Int) (hb : 0 ≤ x) (hb' : x ≤ 4294967295) (w : World) :
    Calls Try.prog 19 #[.int .u32 x, .int .i64 9, .int .i64 1] w fun e w' => e = .returned (.int .i64 (x / 512 % 2)) ∧ ∃ m, w' = w.drewN m := by
  have h : fld x 9 1 = x / 512 % 2 := by simp [fld]
  rw [← h]
  exact F_c x 9 1 hb hb' (by decide) (by decide) (by decide) (by decide) w
theorem F_0_24 (x : Int) (hb : 0 ≤ x) (hb' : x ≤ 4294967295) (w : World) :
    Calls Try.prog 19 #[.int .u32 x, .int .i64 0, .int .i64 24] w fun e w' => e = .returned (.int .i64 (x % 16777216)) ∧ ∃ m, w' = w.drewN m := by
  have h : fld x 0 24 = x % 16777216 := by simp [fld]
  rw [← h]
  exact F_c x 0 24 hb hb' (by decide) (by decide) (by decide) (by decide) w
theorem F_7_5 (x : Int) (hb : 0 ≤ x) (hb' : x ≤ 4294967295) (w : World) :
    Calls Try.prog 19 #[.int .u32 x, .int .i64 7, .int .i64 5] w fun e w' => e = .returned (.int .i64 (x / 128 % 32)) ∧ ∃ m, w' = w.drewN m := by
  have h : fld x 7 5 = x / 128 % 32 := by simp [fld]
  rw [← h]
  exact F_c x 7 5 hb hb' (by decide) (by decide) (by decide) (by decide) w
theorem F_8_12 (x : Int) (hb : 0 ≤ x) (hb' : x ≤ 4294967295) (w : World) :
    Calls Try.prog 19 #[.int .u32 x, .int .i64 8, .int .i64 12] w fun e w' => e = .returned (.int .i64 (x / 256 % 4096)) ∧ ∃ m, w' = w.drewN m := by
  have h : fld x 8 12 = x / 256 % 4096 := by simp [fld]
  rw [← h]
  exact F_c x 8 12 hb hb' (by decide) (by decide) (by decide) (by decide) w
theorem F_0_12 (x : Int) (hb : 0 ≤ x) (hb' : x ≤ 4294967295) (w : World) :
    Calls Try.prog 19 #[.int .u32 x, .int .i64 0, .int .i64 12] w fun e w' => e = .returned (.int .i64 (x % 4096)) ∧ ∃ m, w' = w.drewN m := by
  have h : fld x 0 12 = x % 4096 := by simp [fld]
  rw [← h]
  exact F_c x 0 12 hb hb' (by decide) (by decide) (by decide) (by decide) w
theorem F_24_1 (x : Int) (hb : 0 ≤ x) (hb' : x ≤ 4294967295) (w : World) :
    Calls Try.prog 19 #[.int .u32 x, .int .i64 24, .int .i64 1] w fun e w' => e = .returned (.int .i64 (x / 16777216 % 2)) ∧ ∃ m, w' = w.drewN m := by
  have h : fld x 24 1 = x / 16777216 % 2 := by simp [fld]
  rw [← h]
  exact F_c x 24 1 hb hb' (by decide) (by decide) (by decide) (by decide) w
theorem F_23_1 (x : Int) (hb : 0 ≤ x) (hb' : x ≤ 4294967295) (w : World) :
    Calls Try.prog 19 #[.int .u32 x, .int .i64 23, .int .i64 1] w fun e w' => e = .returned (.int .i64 (x / 8388608 % 2)) ∧ ∃ m, w' = w.drewN m := by
  have h : fld x 23 1 = x / 8388608 % 2 := by simp [fld]
  rw [← h]
  exact F_c x 23 1 hb hb' (by decide) (by decide) (by decide) (by decide) w
theorem F_16_5 (x : Int) (hb : 0 ≤ x) (hb' : x ≤ 4294967295) (w : World) :
    Calls Try.prog 19 #[.int .u32 x, .int .i64 16, .int .i64 5] w fun e w' => e = .returned (.int .i64 (x / 65536 % 32)) ∧ ∃ m, w' = w.drewN m := by
  have h : fld x 16 5 = x / 65536 % 32 := by simp [fld]
  rw [← h]
  exact F_c x 16 5 hb hb' (by decide) (by decide) (by decide) (by decide) w
theorem F_0_16 (x : Int) (hb : 0 ≤ x) (hb' : x ≤ 4294967295) (w : World) :
    Calls Try.prog 19 #[.int .u32 x, .int .i64 0, .int .i64 16] w fun e w' => e = .returned (.int .i64 (x % 65536)) ∧ ∃ m, w' = w.drewN m := by
  have h : fld x 0 16 = x % 65536 := by simp [fld]
  rw [← h]
  exact F_c x 0 16 hb hb' (by decide) (by decide) (by decide) (by decide) w
theorem F_0_8 (x : Int) (hb : 0 ≤ x) (hb' : x ≤ 4294967295) (w : World) :
    Calls Try.prog 19 #[.int .u32 x, .int .i64 0, .int .i64 8] w fun e w' => e = .returned (.int .i64 (x % 256)) ∧ ∃ m, w' = w.drewN m := by
  have h : fld x 0 8 = x % 256 := by simp [fld]
  rw [← h]
  exact F_c x 0 8 hb hb' (by decide) (by decide) (by decide) (by decide) w
theorem F_0_1 (x : Int) (hb : 0 ≤ x) (hb' : x ≤ 4294967295) (w : World) :
    Calls Try.prog 19 #[.int .u32 x, .int .i64 0, .int .i64 1] w fun e w' => e = .returned (.int .i64 (x % 2)) ∧ ∃ m, w' = w.drewN m := by
  have h : fld x 0 1 = x % 2 := by simp [fld]
  rw [← h]
  exact F_c x 0 1 hb hb' (by decide) (by decide) (by decide) (by decide) w
theorem F_12_1 (x : Int) (hb : 0 ≤ x) (hb' : x ≤ 4294967295) (w : World) :
    Calls Try.prog 19 #[.int .u32 x, .int .i64 12, .int .i64 1] w fun e w' => e = .returned (.int .i64 (x / 4096 % 2)) ∧ ∃ m, w' = w.drewN m := by
  have h : fld x 12 1 = x / 4096 % 2 := by simp [fld]
  rw [← h]
  exact F_c x 12 1 hb hb' (by decide) (by decide) (by decide) (by decide) w
theorem R_c (n : Int) (w : World) :
    Calls Try.prog 24 #[.int .i64 n] w fun e w' => e = .returned (arg8 1 n 0 0 0 0 0 0) ∧ w' = w.alloc (argB 1 n 0 0 0 0 0 0) := by
  go_enter Try.func24, Try.ntmps24
  go_wp2
  exact bodyPost_ret (v := arg8 1 n 0 0 0 0 0 0) (by simp [results, Try.results24, go_sem]) rfl ⟨rfl, rfl⟩
theorem N_c (n : Int) (w : World) :
    Calls Try.prog 26 #[.int .i64 n] w fun e w' => e = .returned (arg8 2 0 n 0 0 0 0 0) ∧ w' = w.alloc (argB 2 0 n 0 0 0 0 0) := by
  go_enter Try.func26, Try.ntmps26
  go_wp2
  exact bodyPost_ret (v := arg8 2 0 n 0 0 0 0 0) (by simp [results, Try.results26, go_sem]) rfl ⟨rfl, rfl⟩
theorem S_c (n : Int) (h0 : 0 ≤ n) (h1 : n ≤ 1000) (w : World) :
    Calls Try.prog 31 #[.int .i64 n] w fun e w' => e = .returned (arg8 1 (16 + n) 0 0 0 0 0 0) ∧ w' = (w.alloc (argB 1 (16 + n) 0 0 0 0 0 0)).alloc (argB 1 (16 + n) 0 0 0 0 0 0) := by
  go_enter Try.func31, Try.ntmps31
  go_wp2_with fail
  refine (R_c _ _).mono ?_
  rintro e w1 ⟨rfl, rfl⟩
  go_wp2
  exact bodyPost_ret (v := arg8 1 (16 + n) 0 0 0 0 0 0) (by simp [results, Try.results31, go_sem]) rfl ⟨rfl, rfl⟩
theorem D_c (n : Int) (h0 : 0 ≤ n) (h1 : n ≤ 1000) (w : World) :
    Calls Try.prog 41 #[.int .i64 n] w fun e w' => e = .returned (arg8 1 (48 + n) 0 0 0 0 0 0) ∧ w' = (w.alloc (argB 1 (48 + n) 0 0 0 0 0 0)).alloc (argB 1 (48 + n) 0 0 0 0 0 0) := by
  go_enter Try.func41, Try.ntmps41
  go_wp2_with fail
  refine (R_c _ _).mono ?_
  rintro e w1 ⟨rfl, rfl⟩
  go_wp2
  exact bodyPost_ret (v := arg8 1 (48 + n) 0 0 0 0 0 0) (by simp [results, Try.results41, go_sem]) rfl ⟨rfl, rfl⟩
set_option maxHeartbeats 1000000 in
theorem Either_c (x f o : Int) (hb : 0 ≤ x) (hb' : x ≤ 4294967295) (hf : 0 ≤ f) (hf' : f ≤ 31) (ho : 0 ≤ o) (ho' : o ≤ 31) (w : World) :
    Calls Try.prog 33 #[.int .u32 x, .int .i64 f, .int .i64 o] w fun e w' => e = .returned (arg8 1 (sdv (x / 256 % 2) (fld x f 4) (fld x o 1)) 0 0 0 0 0 0) ∧ Grown w w' := by
  obtain ⟨f0, f1⟩ := fld_bd x f 4 16 rfl
  obtain ⟨o0, o1⟩ := fld_bd x o 1 2 rfl
  have B4 := F_c x f 4 hb hb' hf hf' (by decide) (by decide)
  have B1 := F_c x o 1 hb hb' ho ho' (by decide) (by decide)
  generalize fld x f 4 = v at *
  generalize fld x o 1 = vx at *
  have H4 := Lib.hid B4
  have H1 := Lib.hid B1
  clear B4 B1
  by_cases hs : x / 256 % 2 = 1
  · rw [show sdv (x / 256 % 2) v vx = 48 + (vx * 16 + v) from if_pos hs]
    go_enter Try.func33, Try.ntmps33
    go_wp2_with fail
    refine (F_8_1 x hb hb' _).mono ?_
    rintro e w1 ⟨rfl, n1, rfl⟩
    go_wp2_with fail
    refine (H1.out _).mono ?_
    rintro e w1 ⟨rfl, n2, rfl⟩
    go_wp2_with fail
    refine (H4.out _).mono ?_
    rintro e w1 ⟨rfl, n3, rfl⟩
    go_wp2_with fail
    refine (D_c _ (by omega) (by omega) _).mono ?_
    rintro e w1 ⟨rfl, rfl⟩
    go_wp2
    exact bodyPost_ret (v := arg8 1 (48 + (vx * 16 + v)) 0 0 0 0 0 0) (by simp [results, Try.results33, go_sem]) rfl ⟨rfl, (by repeat (first | with_reducible exact Grown.refl _ | with_reducible apply grown_drewN | with_reducible apply Grown.drew | with_reducible apply Grown.alloc | with_reducible apply grown_set | with_reducible apply grown_set1))⟩
  · rw [show sdv (x / 256 % 2) v vx = 16 + (v * 2 + vx) from if_neg hs]
    have hs0 : x / 256 % 2 = 0 := by omega
    clear hs
    go_enter Try.func33, Try.ntmps33
    go_wp2_with fail
    refine (F_8_1 x hb hb' _).mono ?_
    rintro e w1 ⟨rfl, n1, rfl⟩
    go_wp2_with fail
    refine (H4.out _).mono ?_
    rintro e w1 ⟨rfl, n2, rfl⟩
    go_wp2_with fail
    refine (H1.out _).mono ?_
    rintro e w1 ⟨rfl, n3, rfl⟩
    go_wp2_with fail
    refine (S_c _ (by omega) (by omega) _).mono ?_
    rintro e w1 ⟨rfl, rfl⟩
    go_wp2
    exact bodyPost_ret (v := arg8 1 (16 + (v * 2 + vx)) 0 0 0 0 0 0) (by simp [results, Try.results33, go_sem]) rfl ⟨rfl, (by repeat (first | with_reducible exact Grown.refl _ | with_reducible apply grown_drewN | with_reducible apply Grown.drew | with_reducible apply Grown.alloc | with_reducible apply grown_set | with_reducible apply grown_set1))⟩
end Go.Proofs.Ytpigbldoaemamaa
