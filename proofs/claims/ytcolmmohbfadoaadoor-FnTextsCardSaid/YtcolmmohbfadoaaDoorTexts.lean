/- Contracts for laws.FnTexts: Shift, Endian and RegList as texts. -/
import Derived.Test.YtcolmmohbfadoaaDoorHex
import Derived.Test.YtcolmmohbfadoaaDoorShelf
namespace Go.Proofs.YtcolmmohbfadoaaDoor
open Go.ChangeShapes Go.WideShapes Go.ChangeAt Go.RowKit
def shT (k : Nat) : ByteArray := if k = 0 then ⟨#[76, 83, 76]⟩ else if k = 1 then ⟨#[76, 83, 82]⟩ else if k = 2 then ⟨#[65, 83, 82]⟩ else if k = 3 then ⟨#[82, 79, 82]⟩ else ⟨#[82, 82, 88]⟩
set_option maxHeartbeats 400000 in
theorem sh_c (k : Nat) (h : k < 5) (w : World) (hc : w.cell? ⟨0, k, none⟩ = some (.string (shT k))) :
    Calls Tryd.prog 9 #[.int .i64 k] w fun e w' => e = .returned (.string (shT k)) ∧ w = w' := by
  go_enter Tryd.func9, Tryd.ntmps9
  go_wp2
  go_ret
  exact ⟨rfl, rfl⟩
set_option maxHeartbeats 400000 in
theorem en_0 (w : World) : Calls Tryd.prog 10 #[.int .i64 0] w fun e w' => e = .returned (.string ⟨#[76, 69]⟩) ∧ w = w' := by
  go_enter Tryd.func10, Tryd.ntmps10
  go_wp2
  go_ret
  exact ⟨rfl, rfl⟩
set_option maxHeartbeats 400000 in
theorem en_1 (w : World) : Calls Tryd.prog 10 #[.int .i64 1] w fun e w' => e = .returned (.string ⟨#[66, 69]⟩) ∧ w = w' := by
  go_enter Tryd.func10, Tryd.ntmps10
  go_wp2
  go_ret
  exact ⟨rfl, rfl⟩
def anyB (n : Nat) : Nat → Bool
  | 0 => false
  | k + 1 => anyB n k || n.testBit k
def sepT (b : Bool) : ByteArray := if b then ⟨#[44]⟩ else ⟨#[]⟩
def lst (n : Nat) : Nat → List UInt8
  | 0 => [123]
  | k + 1 => if n.testBit k then lst n k ++ (sepT (anyB n k) ++ rtxt k).data.toList else lst n k
def LRel (n B : Nat) (w : World) (s i : Value) (wr : World) : Prop :=
  ∃ k : Nat, k ≤ 16 ∧ i = .int .i64 k ∧ s = .string (sepT (anyB n k)) ∧ Lib.IsBuffer 39 5 B B (Lib.byteCells (lst n k)) wr ∧ Below B w wr
theorem tb (n k : Nat) (hn : n < 65536) (hk : k < 16) : (bits .and .u16 (n : Int) (IntKind.u16.wrap (2 ^ k)) != 0) = n.testBit k := by
  have hp : 2 ^ k < 65536 := Nat.lt_of_lt_of_le (Nat.pow_lt_pow_right (by decide) hk) (by decide)
  have hw : IntKind.u16.wrap ((2 : Int) ^ k) = ((2 ^ k : Nat) : Int) := by
    have e : ((2 ^ k : Nat) : Int) = (2 : Int) ^ k := by simp
    rw [IntKind.wrap_u16, ← e]
    clear e
    generalize 2 ^ k = p at *
    omega
  rw [hw, u16_and_nat n (2 ^ k) hn hp, nat_bit k n, Nat.testBit_eq_decide_div_mod_eq]
  have hq : 0 < 2 ^ k := Nat.pow_pos (by decide)
  clear hw
  generalize 2 ^ k = p at *
  have hc : n / p % 2 = 0 ∨ n / p % 2 = 1 := by omega
  rcases hc with hc | hc
  · rw [hc]; simp
  · rw [hc]; simp; omega
theorem sep_sz (b : Bool) : (sepT b).size ≤ 1 := by cases b <;> decide
theorem rt_sz : ∀ k, k < 80 → (rtxt k).size ≤ 3 := by decide +kernel
theorem lst_len (n k : Nat) (hk : k ≤ 16) : (lst n k).length ≤ 1 + 4 * k := by
  induction k with
  | zero => simp [lst]
  | succ k ih =>
    have h1 := ih (by omega)
    have h2 := rt_sz k (by omega)
    have h3 := sep_sz (anyB n k)
    have h4 : (sepT (anyB n k) ++ rtxt k).data.toList.length = (sepT (anyB n k)).size + (rtxt k).size := by
      rw [Array.length_toList]
      exact ByteArray.size_append
    unfold lst
    split
    · rw [List.length_append, h4]; omega
    · omega
set_option maxHeartbeats 1000000 in
theorem rl_c (n : Nat) (h : n < 65536) (w : World) :
    Calls Tryd.prog 12 #[.int .u16 n] w fun e w' => e = .returned (.string ⟨(lst n 16 ++ [125]).toArray⟩) ∧ Below w.heap.size w w' := by
  go_enter Tryd.func12, Tryd.ntmps12
  go_wp2_with fail
  refine (Tryd.Buffer_WriteString w.heap.size w.heap.size [] _ _ (Lib.fresh_isBuffer 39 5 w) (by simp) (by simp) (by decide)).mono ?_
  rintro e w1 ⟨rfl, hI, hB⟩
  have HI := Lib.hid hI
  have HB := Lib.hid hB
  clear hI hB
  go_wp2_with fail
  go_loopw [4, 5] (fun s i wr => LRel n w.heap.size w s i wr) (fun _ i _ => 16 - (intOf i).toNat)
  case atStart => exact ⟨0, Nat.zero_le _, rfl, rfl, HI.out, (Below.refl _ _ |>.alloc (Nat.le_refl _) _).trans HB.out⟩
  case round =>
    obtain ⟨k, hk, rfl, rfl, hI, hB⟩ := hrel
    have HI2 := Lib.hid hI
    have HB2 := Lib.hid hB
    clear hI hB
    by_cases hlt : k < 16
    · have T := tb n k h hlt
      have z1 := sep_sz (anyB n k)
      have z2 := rt_sz k (by omega)
      have z3 := lst_len n k hk
      by_cases hb : n.testBit k = true
      · rw [hb] at T
        go_wp2_with fail
        refine (reg_c k (by omega) _).mono ?_
        rintro e w2 ⟨rfl, rfl⟩
        go_wp2_with fail
        refine (Tryd.Buffer_WriteString _ _ _ _ _ HI2.out (by have := HB2.out.size; simpa using this) (Lib.byteCells_one _) (by rw [ByteArray.size_append]; simp [Lib.byteCells]; omega)).mono ?_
        rintro e w3 ⟨rfl, hI3, hB3⟩
        have HI3 := Lib.hid hI3
        have HB3 := Lib.hid hB3
        clear hI3 hB3
        go_wp2
        go_roundw
        case rel => exact ⟨k + 1, by omega, by go_num, by simp [anyB, hb, sepT], by rw [show lst n (k + 1) = lst n k ++ (sepT (anyB n k) ++ rtxt k).data.toList from if_pos hb, Lib.byteCells_append]; exact HI3.out, HB2.out.trans HB3.out⟩
        case measure => simp [intOf]; omega
      · have hb' : n.testBit k = false := by simpa using hb
        rw [hb'] at T
        go_wp2
        go_roundw
        case rel => exact ⟨k + 1, by omega, by go_num, by simp [anyB, hb'], by simpa [lst, hb'] using HI2.out, HB2.out⟩
        case measure => simp [intOf]; omega
    · obtain rfl : k = 16 := by omega
      have z3 := lst_len n 16 (by omega)
      go_wp2_with fail
      refine (Tryd.Buffer_WriteString _ _ _ _ _ HI2.out (by have := HB2.out.size; simpa using this) (Lib.byteCells_one _) (by have q : (⟨#[125]⟩ : ByteArray).size = 1 := rfl; simp [Lib.byteCells]; omega)).mono ?_
      rintro e w3 ⟨rfl, hI3, hB3⟩
      have HI3 := Lib.hid hI3
      have HB3 := Lib.hid hB3
      clear hI3 hB3
      go_wp2_with fail
      have hS := HI3.out
      rw [← Lib.byteCells_append] at hS
      refine (Tryd.Buffer_String _ _ _ _ hS).mono ?_
      rintro e w4 ⟨rfl, m, rfl⟩
      clear hS
      go_wp2
      go_ret
      exact ⟨rfl, below_drewN (HB2.out.trans HB3.out) _⟩
end Go.Proofs.YtcolmmohbfadoaaDoor
