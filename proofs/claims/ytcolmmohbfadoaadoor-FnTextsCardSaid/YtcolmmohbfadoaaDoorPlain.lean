/- Plain laws for laws.FnTexts: the texts of numbers and shifts are told apart. -/
import Derived.Test.YtcolmmohbfadoaaDoorTexts
namespace Go.Proofs.YtcolmmohbfadoaaDoor
def unh (c : UInt8) : Nat := if c.toNat < 58 then c.toNat - 48 else c.toNat - 87
theorem unh_hx (d : Nat) (h : d < 16) : unh (hx d) = d := by
  have hv : ∀ m, m < 16 → unh (hx m) = m := by decide +kernel
  exact hv d h
def hval (l : List UInt8) : Nat := l.foldl (fun a c => 16 * a + unh c) 0
theorem hval_hexL (u : Nat) (h : u < 65536) : hval (hexL u) = u := by
  have a0 := unh_hx (u % 16) (by omega)
  have a1 := unh_hx (u / 16 % 16) (by omega)
  have a2 := unh_hx (u / 256 % 16) (by omega)
  have a3 := unh_hx (u / 4096) (by omega)
  unfold hexL
  split
  · simp only [hval, List.foldl, unh_hx u (by omega)]; omega
  · split
    · simp only [hval, List.foldl, unh_hx (u / 16) (by omega), a0]; omega
    · split
      · simp only [hval, List.foldl, unh_hx (u / 256) (by omega), a1, a0]; omega
      · simp only [hval, List.foldl, a3, a2, a1, a0]; omega
theorem hexL_inj (u v : Nat) (hu : u < 65536) (hv : v < 65536) (h : hexL u = hexL v) : u = v := by
  rw [← hval_hexL u hu, ← hval_hexL v hv, h]
theorem immT_list (u : Nat) : (immT u).data.toList = [35, 48, 120] ++ hexL u := by
  unfold immT
  simp [ByteArray.data_append]
theorem immT_inj (u v : Nat) (hu : u < 65536) (hv : v < 65536) : (((immT u).toList == (immT v).toList) == ((u : Int) == (v : Int))) = true := by
  rw [ByteArray.toList_eq, ByteArray.toList_eq, immT_list, immT_list]
  by_cases h : u = v
  · subst h; simp
  · have h' : ¬ ((u : Int) = (v : Int)) := by omega
    have h2 : ¬ ([35, 48, 120] ++ hexL u = [35, 48, 120] ++ hexL v) := fun e => h (hexL_inj u v hu hv (List.append_cancel_left e))
    rw [beq_eq_false_iff_ne.2 h', beq_eq_false_iff_ne.2 h2]
    rfl
theorem shT_inj0 : ∀ i, i < 5 → ∀ j, j < 5 → ((shT i).data.toList == (shT j).data.toList) = (i == j) := by decide +kernel
def rest (n : Nat) : Nat → Nat → Bool → List UInt8
  | 0, _, _ => []
  | f + 1, k, b => if n.testBit k then (sepT b).data.toList ++ (rtxt k).data.toList ++ rest n f (k + 1) true else rest n f (k + 1) b
theorem app_list (a b : ByteArray) : (a ++ b).data.toList = a.data.toList ++ b.data.toList := by simp [ByteArray.data_append]
theorem lst_rest (n f k : Nat) : lst n (k + f) = lst n k ++ rest n f k (anyB n k) := by
  induction f generalizing k with
  | zero => simp [rest]
  | succ f ih =>
    rw [show k + (f + 1) = (k + 1) + f from by omega, ih (k + 1)]
    by_cases hb : n.testBit k = true
    · have e1 : lst n (k + 1) = lst n k ++ ((sepT (anyB n k)).data.toList ++ (rtxt k).data.toList) := by
        rw [← app_list]; exact if_pos hb
      have e2 : anyB n (k + 1) = true := by simp [anyB, hb]
      have e3 : rest n (f + 1) k (anyB n k) = (sepT (anyB n k)).data.toList ++ (rtxt k).data.toList ++ rest n f (k + 1) true := if_pos hb
      rw [e1, e2, e3]; simp
    · have e1 : lst n (k + 1) = lst n k := if_neg hb
      have e2 : anyB n (k + 1) = anyB n k := by simp [anyB, hb]
      have e3 : rest n (f + 1) k (anyB n k) = rest n f (k + 1) (anyB n k) := if_neg hb
      rw [e1, e2, e3]
def tok (c : UInt8) : Bool := c != 44 && c != 125
def Ends (t : List UInt8) : Prop := ∃ c r, t = c :: r ∧ tok c = false
theorem rt_tok : ∀ k, k < 80 → (rtxt k).data.toList.all tok = true := by decide +kernel
theorem take_tok (a t : List UInt8) (ha : a.all tok = true) (ht : Ends t) : (a ++ t).takeWhile tok = a := by
  obtain ⟨c, r, rfl, hc⟩ := ht
  rw [List.takeWhile_append_of_pos (by simpa using ha)]
  simp [hc]
theorem rt_same (i j : Nat) (hi : i < 80) (hj : j < 80) (t t' : List UInt8) (ht : Ends t) (ht' : Ends t') (h : (rtxt i).data.toList ++ t = (rtxt j).data.toList ++ t') : i = j := by
  have e := congrArg (List.takeWhile tok) h
  rw [take_tok _ _ (rt_tok i hi) ht, take_tok _ _ (rt_tok j hj) ht'] at e
  have := inj0 i hi j hj
  rw [e] at this
  simpa using this.symm
theorem rest_true (n f k : Nat) : Ends (rest n f k true ++ [125]) := by
  induction f generalizing k with
  | zero => exact ⟨125, [], rfl, by decide⟩
  | succ f ih =>
    unfold rest
    split
    · exact ⟨44, (rtxt k).data.toList ++ rest n f (k + 1) true ++ [125], by simp [sepT], by decide⟩
    · exact ih (k + 1)
theorem rest_form (n f k : Nat) (b : Bool) : rest n f k b = [] ∨ ∃ j, k ≤ j ∧ j < k + f ∧ ∃ t, Ends (t ++ [125]) ∧ rest n f k b = (sepT b).data.toList ++ (rtxt j).data.toList ++ t := by
  induction f generalizing k with
  | zero => exact Or.inl rfl
  | succ f ih =>
    by_cases hb : n.testBit k = true
    · exact Or.inr ⟨k, Nat.le_refl _, by omega, rest n f (k + 1) true, rest_true n f (k + 1), if_pos hb⟩
    · rw [show rest n (f + 1) k b = rest n f (k + 1) b from if_neg hb]
      rcases ih (k + 1) with h | ⟨j, h1, h2, t, h3, h4⟩
      · exact Or.inl h
      · exact Or.inr ⟨j, by omega, by omega, t, h3, h4⟩
theorem rt_pos : ∀ k, k < 80 → (rtxt k).data.toList ≠ [] := by decide +kernel
theorem diff (n m f k : Nat) (b : Bool) (hk : k + (f + 1) ≤ 80) (h : (sepT b).data.toList ++ (rtxt k).data.toList ++ rest n f (k + 1) true ++ [125] = rest m f (k + 1) b ++ [125]) : False := by
  have E := rest_true n f (k + 1)
  rcases rest_form m f (k + 1) b with h0 | ⟨j, h1, h2, t, h3, h4⟩
  · rw [h0] at h
    cases b with
    | true => simp [sepT] at h
    | false =>
      have h' : (rtxt k).data.toList ++ (rest n f (k + 1) true ++ [125]) = [] ++ [125] := by simpa [sepT] using h
      have e := congrArg (List.takeWhile tok) h'
      rw [take_tok _ _ (rt_tok k (by omega)) E] at e
      exact rt_pos k (by omega) (by rw [e]; rfl)
  · simp only [h4, List.append_assoc] at h
    have h5 := List.append_cancel_left h
    have := rt_same k j (by omega) (by omega) _ _ E h3 h5
    omega
theorem rest_inj (n m f k : Nat) (b : Bool) (hk : k + f ≤ 80) (h : rest n f k b ++ [125] = rest m f k b ++ [125]) : ∀ j, k ≤ j → j < k + f → n.testBit j = m.testBit j := by
  induction f generalizing k b with
  | zero => intro j h1 h2; omega
  | succ f ih =>
    intro j h1 h2
    have step : ∀ b', rest n f (k + 1) b' ++ [125] = rest m f (k + 1) b' ++ [125] → n.testBit k = m.testBit k → n.testBit j = m.testBit j := by
      intro b' e eb
      by_cases hj : j = k
      · rw [hj]; exact eb
      · exact ih (k + 1) b' (by omega) e j (by omega) (by omega)
    by_cases hn : n.testBit k = true
    · by_cases hm : m.testBit k = true
      · rw [show rest n (f + 1) k b = (sepT b).data.toList ++ (rtxt k).data.toList ++ rest n f (k + 1) true from if_pos hn, show rest m (f + 1) k b = (sepT b).data.toList ++ (rtxt k).data.toList ++ rest m f (k + 1) true from if_pos hm, List.append_assoc, List.append_assoc _ (rest m f (k + 1) true)] at h
        exact step true (List.append_cancel_left h) (by rw [hn, hm])
      · rw [show rest n (f + 1) k b = (sepT b).data.toList ++ (rtxt k).data.toList ++ rest n f (k + 1) true from if_pos hn, show rest m (f + 1) k b = rest m f (k + 1) b from if_neg hm] at h
        exact (diff n m f k b (by omega) h).elim
    · by_cases hm : m.testBit k = true
      · rw [show rest n (f + 1) k b = rest n f (k + 1) b from if_neg hn, show rest m (f + 1) k b = (sepT b).data.toList ++ (rtxt k).data.toList ++ rest m f (k + 1) true from if_pos hm] at h
        exact (diff m n f k b (by omega) h.symm).elim
      · rw [show rest n (f + 1) k b = rest n f (k + 1) b from if_neg hn, show rest m (f + 1) k b = rest m f (k + 1) b from if_neg hm] at h
        exact step b h (by simp at hn hm; rw [hn, hm])
theorem lst_inj (n m : Nat) (hn : n < 65536) (hm : m < 65536) (h : lst n 16 ++ [125] = lst m 16 ++ [125]) : n = m := by
  have e1 := lst_rest n 16 0
  have e2 := lst_rest m 16 0
  rw [show (0 + 16 : Nat) = 16 from rfl] at e1 e2
  rw [e1, e2, show lst n 0 = [123] from rfl, show lst m 0 = [123] from rfl, List.append_assoc, List.append_assoc] at h
  have h2 := rest_inj n m 16 0 false (by omega) (List.append_cancel_left h)
  apply Nat.eq_of_testBit_eq
  intro i
  by_cases hi : i < 16
  · exact h2 i (Nat.zero_le _) (by omega)
  · have p : 65536 ≤ 2 ^ i := Nat.le_trans (show 65536 ≤ 2 ^ 16 by decide) (Nat.pow_le_pow_right (by decide) (by omega))
    rw [Nat.testBit_lt_two_pow (by omega), Nat.testBit_lt_two_pow (by omega)]
end Go.Proofs.YtcolmmohbfadoaaDoor
