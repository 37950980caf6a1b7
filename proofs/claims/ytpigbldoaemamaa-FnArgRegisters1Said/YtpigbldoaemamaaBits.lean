/- Plain lemmas on words of 32 bits and their fields (no program in sight). -/
import Derived.Laws.BitsAll
import Derived.RowKit
import Derived.Laws.BitsLemmas
namespace Go.Proofs.Ytpigbldoaemamaa
open Go.RowKit
def fld (x a n : Int) : Int := x / 2 ^ a.toNat % 2 ^ n.toNat
theorem mod_mask (k n : Nat) (hk : k ≤ n) (x : Int) : ((BitVec.ofInt n x).toNat &&& (2 ^ k - 1) : Nat) = (x % 2 ^ k).toNat := by
  rw [BitVec.toNat_ofInt, Nat.and_two_pow_sub_one_eq_mod]
  have hp : (0 : Int) < (2 ^ n : Nat) := Int.natCast_pos.2 (Nat.pow_pos (by decide))
  have h0 : 0 ≤ x % (2 ^ n : Nat) := Int.emod_nonneg _ (by omega)
  have e1 : ((x % (2 ^ n : Nat)).toNat % 2 ^ k : Nat) = (x % (2 ^ n : Nat) % (2 ^ k : Nat)).toNat := by
    rw [Int.toNat_emod h0 (Int.natCast_nonneg _), Int.toNat_natCast]
  rw [e1, Int.emod_emod_of_dvd _ (Int.natCast_dvd_natCast.2 (Nat.pow_dvd_pow 2 hk))]
  simp
theorem u32_mask (k : Nat) (hk : k < 32) (x : Int) : bits .and .u32 x (2 ^ k - 1 : Nat) = x % 2 ^ k := by
  have hlt : 2 ^ k ≤ 2 ^ 31 := Nat.pow_le_pow_right (by decide) (by omega)
  have hq : (0 : Int) < 2 ^ k := Int.pow_pos (by decide)
  have hl : ((2 : Int) ^ k) ≤ 2 ^ 31 := by exact_mod_cast hlt
  have h0 : 0 ≤ x % 2 ^ k := Int.emod_nonneg _ (by omega)
  have h1 : x % 2 ^ k < 2 ^ k := Int.emod_lt_of_pos _ hq
  show IntKind.u32.wrap ((BitVec.ofInt 32 x &&& BitVec.ofInt 32 ((2 ^ k - 1 : Nat) : Int)).toNat : Int) = _
  rw [BitVec.toNat_and, ofInt_u32 _ (by omega), mod_mask k 32 (by omega), IntKind.wrap_u32, Int.toNat_of_nonneg h0]
  exact Int.emod_eq_of_lt h0 (by omega)
theorem i64_mask (k : Nat) (hk : k < 63) (x : Int) : bits .and .i64 x (2 ^ k - 1 : Nat) = x % 2 ^ k := by
  have hlt : 2 ^ k ≤ 2 ^ 62 := Nat.pow_le_pow_right (by decide) (by omega)
  have hq : (0 : Int) < 2 ^ k := Int.pow_pos (by decide)
  have hl : ((2 : Int) ^ k) ≤ 2 ^ 62 := by exact_mod_cast hlt
  have h0 : 0 ≤ x % 2 ^ k := Int.emod_nonneg _ (by omega)
  have h1 : x % 2 ^ k < 2 ^ k := Int.emod_lt_of_pos _ hq
  show IntKind.i64.wrap ((BitVec.ofInt 64 x &&& BitVec.ofInt 64 ((2 ^ k - 1 : Nat) : Int)).toNat : Int) = _
  rw [BitVec.toNat_and, ofInt_u64 _ (by omega), mod_mask k 64 (by omega), IntKind.wrap_i64, Int.toNat_of_nonneg h0]
  omega
theorem fld_val (x a n : Int) (hb : 0 ≤ x) (hb' : x ≤ 4294967295) (_ha : 0 ≤ a) (hn : 0 ≤ n) (hn' : n ≤ 24) :
    bits .and .i64 (wrap64 (x / 2 ^ a.toNat)) (wrap64 (wrap64 (2 ^ n.toNat) - 1)) = fld x a n := by
  have hp : (0 : Int) < 2 ^ a.toNat := Int.pow_pos (by decide)
  have h1 : 0 ≤ x / 2 ^ a.toNat := Int.ediv_nonneg hb (by omega)
  have h2 : x / 2 ^ a.toNat ≤ x := Int.ediv_le_self _ hb
  have hlt : 2 ^ n.toNat ≤ 2 ^ 24 := Nat.pow_le_pow_right (by decide) (by omega)
  have hl : ((2 : Int) ^ n.toNat) ≤ 2 ^ 24 := by exact_mod_cast hlt
  have hq : (0 : Int) < 2 ^ n.toNat := Int.pow_pos (by decide)
  have e1 : wrap64 (x / 2 ^ a.toNat) = x / 2 ^ a.toNat := by unfold wrap64; omega
  have e2 : wrap64 (2 ^ n.toNat) = 2 ^ n.toNat := by unfold wrap64; omega
  have e3 : wrap64 (2 ^ n.toNat - 1) = ((2 ^ n.toNat - 1 : Nat) : Int) := by
    unfold wrap64
    have : ((2 ^ n.toNat - 1 : Nat) : Int) = (2 : Int) ^ n.toNat - 1 := by
      have : 1 ≤ 2 ^ n.toNat := Nat.one_le_two_pow
      rw [Int.natCast_sub this]; simp
    omega
  rw [e1, e2, e3, i64_mask _ (by omega)]
  rfl
def turned (v n : Int) : Int := wrap64 (bits .or .u32 (v / 2 ^ n.toNat) (v * 2 ^ (32 - n).toNat % 4294967296))
theorem im1 (x : Int) : bits .and .i64 x 1 = x % 2 := i64_mask 1 (by decide) x
theorem m1 (x : Int) : bits .and .u32 x 1 = x % 2 := u32_mask 1 (by decide) x
theorem m2 (x : Int) : bits .and .u32 x 3 = x % 4 := u32_mask 2 (by decide) x
theorem m4 (x : Int) : bits .and .u32 x 15 = x % 16 := u32_mask 4 (by decide) x
theorem m5 (x : Int) : bits .and .u32 x 31 = x % 32 := u32_mask 5 (by decide) x
theorem m8 (x : Int) : bits .and .u32 x 255 = x % 256 := u32_mask 8 (by decide) x
theorem m12 (x : Int) : bits .and .u32 x 4095 = x % 4096 := u32_mask 12 (by decide) x
theorem m16 (x : Int) : bits .and .u32 x 65535 = x % 65536 := u32_mask 16 (by decide) x
theorem m24 (x : Int) : bits .and .u32 x 16777215 = x % 16777216 := u32_mask 24 (by decide) x
theorem u32_join (k : Nat) (a b : Int) (h0 : 0 ≤ a) (h1 : a < 4294967296) (h2 : 0 ≤ b) (h3 : b < 4294967296) (h4 : b < 2 ^ k) (h5 : a % 2 ^ k = 0) : bits .or .u32 a b = a + b := by
  rw [u32_or a b h0 h1 h2 h3]
  obtain ⟨c, rfl⟩ := Int.eq_ofNat_of_zero_le h0
  obtain ⟨d, rfl⟩ := Int.eq_ofNat_of_zero_le h2
  rw [Int.toNat_natCast, Int.toNat_natCast, nat_join k c d (by exact_mod_cast h5) (by exact_mod_cast h4)]
  rfl
theorem andNot_fld (m a n : Nat) (hm : m < 4294967296) (x : Int) (h0 : 0 ≤ x) (h1 : x ≤ 4294967295) :
    bits .andNot .u32 x (m : Int) / 2 ^ a % 2 ^ n = (((x.toNat / 2 ^ a % 2 ^ n) &&& ((4294967295 - m) / 2 ^ a % 2 ^ n) : Nat) : Int) := by
  rw [u32_andNot x m h0 (by omega) (by omega) (by omega), Int.toNat_natCast, ← Nat.and_mod_two_pow, ← Nat.and_div_two_pow]
  simp
theorem keepN (m a n : Nat) (hm : m < 4294967296) (x : Int) (h0 : 0 ≤ x) (h1 : x ≤ 4294967295) (h : (4294967295 - m) / 2 ^ a % 2 ^ n = 2 ^ n - 1) :
    bits .andNot .u32 x (m : Int) / 2 ^ a % 2 ^ n = x / 2 ^ a % 2 ^ n := by
  rw [andNot_fld m a n hm x h0 h1, h, Nat.and_two_pow_sub_one_eq_mod, Nat.mod_mod]
  obtain ⟨c, rfl⟩ := Int.eq_ofNat_of_zero_le h0
  simp
theorem zeroN (m a n : Nat) (hm : m < 4294967296) (x : Int) (h0 : 0 ≤ x) (h1 : x ≤ 4294967295) (h : (4294967295 - m) / 2 ^ a % 2 ^ n = 0) :
    bits .andNot .u32 x (m : Int) / 2 ^ a % 2 ^ n = 0 := by
  rw [andNot_fld m a n hm x h0 h1, h, Nat.and_zero]
  rfl
theorem andNot_bd (x y : Int) : 0 ≤ bits .andNot .u32 x y ∧ bits .andNot .u32 x y ≤ 4294967295 := by
  show 0 ≤ IntKind.u32.wrap _ ∧ IntKind.u32.wrap _ ≤ _
  rw [IntKind.wrap_u32]
  omega
theorem or_bd (x y : Int) : 0 ≤ bits .or .u32 x y ∧ bits .or .u32 x y ≤ 4294967295 := by
  show 0 ≤ IntKind.u32.wrap _ ∧ IntKind.u32.wrap _ ≤ _
  rw [IntKind.wrap_u32]
  omega
theorem and_bd (x y : Int) : 0 ≤ bits .and .u32 x y ∧ bits .and .u32 x y ≤ 4294967295 := by
  show 0 ≤ IntKind.u32.wrap _ ∧ IntKind.u32.wrap _ ≤ _
  rw [IntKind.wrap_u32]
  omega
theorem xor_bd (x y : Int) : 0 ≤ bits .xor .u32 x y ∧ bits .xor .u32 x y ≤ 4294967295 := by
  show 0 ≤ IntKind.u32.wrap _ ∧ IntKind.u32.wrap _ ≤ _
  rw [IntKind.wrap_u32]
  omega
theorem or_fld (m a n : Nat) (hm : m < 4294967296) (x : Int) (h0 : 0 ≤ x) (h1 : x ≤ 4294967295) :
    bits .or .u32 x (m : Int) / 2 ^ a % 2 ^ n = (((x.toNat / 2 ^ a % 2 ^ n) ||| (m / 2 ^ a % 2 ^ n) : Nat) : Int) := by
  rw [u32_or x m h0 (by omega) (by omega) (by omega), Int.toNat_natCast, ← Nat.or_mod_two_pow, ← Nat.or_div_two_pow]
  simp
theorem keepO (m a n : Nat) (hm : m < 4294967296) (x : Int) (h0 : 0 ≤ x) (h1 : x ≤ 4294967295) (h : m / 2 ^ a % 2 ^ n = 0) :
    bits .or .u32 x (m : Int) / 2 ^ a % 2 ^ n = x / 2 ^ a % 2 ^ n := by
  rw [or_fld m a n hm x h0 h1, h, Nat.or_zero]
  obtain ⟨c, rfl⟩ := Int.eq_ofNat_of_zero_le h0
  simp
theorem oneO (m a : Nat) (hm : m < 4294967296) (x : Int) (h0 : 0 ≤ x) (h1 : x ≤ 4294967295) (h : m / 2 ^ a % 2 ^ 1 = 1) :
    bits .or .u32 x (m : Int) / 2 ^ a % 2 ^ 1 = 1 := by
  rw [or_fld m a 1 hm x h0 h1, h]
  have : x.toNat / 2 ^ a % 2 ^ 1 = 0 ∨ x.toNat / 2 ^ a % 2 ^ 1 = 1 := by omega
  rcases this with e | e <;> rw [e] <;> rfl
theorem keepA (m a n : Nat) (hm : m < 4294967296) (x : Int) (h0 : 0 ≤ x) (h1 : x ≤ 4294967295) (h : m / 2 ^ a % 2 ^ n = 2 ^ n - 1) :
    bits .and .u32 x (m : Int) / 2 ^ a % 2 ^ n = x / 2 ^ a % 2 ^ n := by
  have e : bits .and .u32 x (m : Int) / 2 ^ a % 2 ^ n = (((x.toNat / 2 ^ a % 2 ^ n) &&& (m / 2 ^ a % 2 ^ n) : Nat) : Int) := by
    rw [u32_and x m h0 (by omega) (by omega) (by omega), Int.toNat_natCast, ← Nat.and_mod_two_pow, ← Nat.and_div_two_pow]
    simp
  rw [e, h, Nat.and_two_pow_sub_one_eq_mod, Nat.mod_mod]
  obtain ⟨c, rfl⟩ := Int.eq_ofNat_of_zero_le h0
  simp
theorem zeroA (m a n : Nat) (hm : m < 4294967296) (x : Int) (h0 : 0 ≤ x) (h1 : x ≤ 4294967295) (h : m / 2 ^ a % 2 ^ n = 0) :
    bits .and .u32 x (m : Int) / 2 ^ a % 2 ^ n = 0 := by
  have e : bits .and .u32 x (m : Int) / 2 ^ a % 2 ^ n = (((x.toNat / 2 ^ a % 2 ^ n) &&& (m / 2 ^ a % 2 ^ n) : Nat) : Int) := by
    rw [u32_and x m h0 (by omega) (by omega) (by omega), Int.toNat_natCast, ← Nat.and_mod_two_pow, ← Nat.and_div_two_pow]
    simp
  rw [e, h, Nat.and_zero]
  rfl
end Go.Proofs.Ytpigbldoaemamaa
