/- laws.FnTexts walked at each kind (k % 4 = 0 .. 3) to 'true'; under the cells of two tables, as the program's text lays them, where the kind reads them. -/
import Derived.Test.YtcolmmohbfadoaaDoorPlain

namespace Go.Proofs.YtcolmmohbfadoaaDoor
open Go.ChangeShapes Go.WideShapes Go.ChangeAt Go.RowKit
set_option maxHeartbeats 1000000 in
theorem rlt_c (n : Nat) (h : n < 65536) (w : World) :
    Calls Tryd.prog 7 #[.int .i64 n] w fun e w' => e = .returned (.string ⟨(lst n 16 ++ [125]).toArray⟩) ∧ Below w.heap.size w w' := by
  have C := Lib.hid (rl_c n h)
  go_enter Tryd.func7, Tryd.ntmps7
  go_wp2_with fail
  refine (C.out _).mono ?_
  rintro e w1 ⟨rfl, hB⟩
  have HB := Lib.hid hB
  clear hB
  go_wp2
  go_ret
  exact ⟨rfl, HB.out⟩
set_option maxHeartbeats 1000000 in
theorem law1 (a b : Nat) (k : Int) (ha : a < 65536) (hb : b < 65536) (k0 : 0 ≤ k) (k1 : k ≤ 255) (hk : k % 4 = 1) (w : World) (hc : w.cell? ⟨4, 15, none⟩ = some (.int .u8 4)) :
    Calls Tryd.prog 4 #[.int .u16 a, .int .u16 b, .int .u8 k] w fun e w' => e = .returned (.bool true) ∧ Below w.heap.size w w' := by
  have hE := immT_inj a b ha hb
  have CA := Lib.hid (imm_c a ha)
  have CB := Lib.hid (imm_c b hb)
  go_enter Tryd.func4, Tryd.ntmps4
  go_wp2_with fail
  refine (CA.out _ hc).mono ?_
  rintro e w1 ⟨rfl, g⟩
  have hc1 := cell_later g hc
  have G := Lib.hid g
  clear g
  go_wp2_with fail
  refine (CB.out _ hc1).mono ?_
  rintro e w2 ⟨rfl, g⟩
  have G2 := Lib.hid g
  clear g
  go_wp2
  go_ret
  exact ⟨rfl, G.out.trans (G2.out.mono G.out.size)⟩
theorem lst_eq (a b : Nat) (ha : a < 65536) (hb : b < 65536) : (((⟨(lst a 16 ++ [125]).toArray⟩ : ByteArray).toList == (⟨(lst b 16 ++ [125]).toArray⟩ : ByteArray).toList) == ((a : Int) == (b : Int))) = true := by
  rw [ByteArray.toList_eq, ByteArray.toList_eq]
  show (((lst a 16 ++ [125]) == (lst b 16 ++ [125])) == _) = true
  by_cases h : a = b
  · subst h; simp
  · have h' : ¬ ((a : Int) = (b : Int)) := by omega
    have h2 : ¬ (lst a 16 ++ [125] = lst b 16 ++ [125]) := fun e => h (lst_inj a b ha hb e)
    rw [beq_eq_false_iff_ne.2 h', beq_eq_false_iff_ne.2 h2]
    rfl
set_option maxHeartbeats 1000000 in
theorem law0 (a b : Nat) (k : Int) (ha : a < 65536) (hb : b < 65536) (k0 : 0 ≤ k) (k1 : k ≤ 255) (hk : k % 4 = 0) (w : World) :
    Calls Tryd.prog 4 #[.int .u16 a, .int .u16 b, .int .u8 k] w fun e w' => e = .returned (.bool true) ∧ Below w.heap.size w w' := by
  have hE := lst_eq a b ha hb
  have CA := rlt_c a ha
  have CB := rlt_c b hb
  generalize (⟨(lst a 16 ++ [125]).toArray⟩ : ByteArray) = s at *
  generalize (⟨(lst b 16 ++ [125]).toArray⟩ : ByteArray) = t at *
  have HA := Lib.hid CA
  have HB := Lib.hid CB
  clear CA CB
  go_enter Tryd.func4, Tryd.ntmps4
  go_wp2_with fail
  refine (HA.out _).mono ?_
  rintro e w1 ⟨rfl, g⟩
  have G := Lib.hid g
  clear g
  go_wp2_with fail
  refine (HB.out _).mono ?_
  rintro e w2 ⟨rfl, g⟩
  have G2 := Lib.hid g
  clear g
  go_wp2
  go_ret
  exact ⟨rfl, G.out.trans (G2.out.mono G.out.size)⟩
set_option maxHeartbeats 1000000 in
theorem law3 (a b : Nat) (k : Int) (ha : a < 65536) (hb : b < 65536) (k0 : 0 ≤ k) (k1 : k ≤ 255) (hk : k % 4 = 3) (w : World) :
    Calls Tryd.prog 4 #[.int .u16 a, .int .u16 b, .int .u8 k] w fun e w' => e = .returned (.bool true) ∧ Below w.heap.size w w' := by
  have E0 := Lib.hid en_0
  have E1 := Lib.hid en_1
  have h1 : (a : Int) % 2 = 0 ∨ (a : Int) % 2 = 1 := by omega
  have h2 : (b : Int) % 2 = 0 ∨ (b : Int) % 2 = 1 := by omega
  rcases h1 with h1 | h1 <;> rcases h2 with h2 | h2
  all_goals
    go_enter Tryd.func4, Tryd.ntmps4
    go_wp2_with fail
    (first | (with_reducible refine (E0.out _).mono ?_) | (with_reducible refine (E1.out _).mono ?_))
    rintro e w1 ⟨rfl, rfl⟩
    go_wp2_with fail
    (first | (with_reducible refine (E0.out _).mono ?_) | (with_reducible refine (E1.out _).mono ?_))
    rintro e w1 ⟨rfl, rfl⟩
    go_wp2
    go_ret
    exact ⟨rfl, Below.refl _ _⟩
theorem shT_eq (i j : Nat) (hi : i < 5) (hj : j < 5) : (((shT i).toList == (shT j).toList) == ((i : Int) == (j : Int))) = true := by
  rw [ByteArray.toList_eq, ByteArray.toList_eq, shT_inj0 i hi j hj]
  by_cases h : i = j
  · subst h; simp
  · have h' : ¬ ((i : Int) = (j : Int)) := by omega
    rw [beq_eq_false_iff_ne.2 h, beq_eq_false_iff_ne.2 h']
    rfl
set_option maxHeartbeats 1000000 in
theorem law2 (a b : Nat) (k : Int) (ha : a < 65536) (hb : b < 65536) (k0 : 0 ≤ k) (k1 : k ≤ 255) (hk : k % 4 = 2) (w : World) (hc : ∀ i, i < 5 → w.cell? ⟨0, i, none⟩ = some (.string (shT i))) :
    Calls Tryd.prog 4 #[.int .u16 a, .int .u16 b, .int .u8 k] w fun e w' => e = .returned (.bool true) ∧ Below w.heap.size w w' := by
  obtain ⟨i, hi⟩ : ∃ i : Nat, (a : Int) % 5 = (i : Int) := ⟨a % 5, by omega⟩
  obtain ⟨j, hj⟩ : ∃ j : Nat, (b : Int) % 5 = (j : Int) := ⟨b % 5, by omega⟩
  have li : i < 5 := by omega
  have lj : j < 5 := by omega
  have hE := shT_eq i j li lj
  have CA := Lib.hid (sh_c i li w (hc i li))
  have CB := Lib.hid (sh_c j lj w (hc j lj))
  clear hc
  go_enter Tryd.func4, Tryd.ntmps4
  go_wp2_with fail
  refine CA.out.mono ?_
  rintro e w1 ⟨rfl, rfl⟩
  go_wp2_with fail
  refine CB.out.mono ?_
  rintro e w1 ⟨rfl, rfl⟩
  go_wp2
  go_ret
  exact ⟨rfl, Below.refl _ _⟩
end Go.Proofs.YtcolmmohbfadoaaDoor
