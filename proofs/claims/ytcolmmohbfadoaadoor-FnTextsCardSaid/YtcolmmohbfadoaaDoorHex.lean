/- Contracts for laws.FnTexts: impl.ImmText at a number below 65536 (internal/strconv.formatBits at base 16, walked). -/
import Derived.Test.YtcolmmohbfadoaaDoorFnRegText
import Derived.Laws.IdiomStrings
import Derived.Laws.NewBlocks
namespace Go.Proofs.YtcolmmohbfadoaaDoor
open Go.ChangeShapes Go.WideShapes Go.ChangeAt Go.RowKit
theorem tzq : IntKind.u64.wrap (bits .and .u64 16 (IntKind.u64.wrap (-16)) * 285870213051353865) / 288230376151711744 = 15 := by decide
set_option maxRecDepth 100000 in
set_option maxHeartbeats 1000000 in
theorem tz (w : World) (hc : w.cell? ⟨4, 15, none⟩ = some (.int .u8 4)) :
    Calls Tryd.prog 34 #[.int .u64 16] w fun e w' => e = .returned (.int .i64 4) ∧ w = w' := by
  have hq := tzq
  go_enter Tryd.func34, Tryd.ntmps34
  go_wp2
  go_ret
  exact ⟨rfl, rfl⟩
theorem zero61 (w : World) : Sem.run Tryd.prog (zeroValue 61) w = .ok (.agg #[.int .u8 0, .int .u8 0, .int .u8 0, .int .u8 0, .int .u8 0, .int .u8 0, .int .u8 0, .int .u8 0, .int .u8 0, .int .u8 0, .int .u8 0, .int .u8 0, .int .u8 0, .int .u8 0, .int .u8 0, .int .u8 0, .int .u8 0, .int .u8 0, .int .u8 0, .int .u8 0, .int .u8 0, .int .u8 0, .int .u8 0, .int .u8 0, .int .u8 0, .int .u8 0, .int .u8 0, .int .u8 0, .int .u8 0, .int .u8 0, .int .u8 0, .int .u8 0, .int .u8 0, .int .u8 0, .int .u8 0, .int .u8 0, .int .u8 0, .int .u8 0, .int .u8 0, .int .u8 0, .int .u8 0, .int .u8 0, .int .u8 0, .int .u8 0, .int .u8 0, .int .u8 0, .int .u8 0, .int .u8 0, .int .u8 0, .int .u8 0, .int .u8 0, .int .u8 0, .int .u8 0, .int .u8 0, .int .u8 0, .int .u8 0, .int .u8 0, .int .u8 0, .int .u8 0, .int .u8 0, .int .u8 0, .int .u8 0, .int .u8 0, .int .u8 0, .int .u8 0]) w := by kernel_rfl
attribute [local go_sem] zero61

theorem cvk (w : World) (C : Array Value) (l : List UInt8) (n off : Nat) (hn : l.length = n) (h : ∀ j (hj : j < l.length), C[off + j]? = some (.int .u8 (l[j].toNat : Int))) :
    Sem.run Tryd.prog (convert 35 9 (.slice (some ⟨w.heap.size, off, none⟩) n n)) (w.alloc (.cells C 61)) = .ok (.string ⟨l.toArray⟩) (w.alloc (.cells C 61)) := by
  subst hn
  exact run_convert_bytes_back (w.alloc (.cells C 61)) 35 9 5 ⟨w.heap.size, off, none⟩ l.length l Tryd.underlying35 Tryd.underlying5 Tryd.underlying9 (fun j hj => by
    have := h j hj
    rw [← this]
    by_cases h0 : j = 0
    · subst h0; simp [Addr.add]
    · simp [Addr.add, h0])
def hx (d : Nat) : UInt8 := (#[48, 49, 50, 51, 52, 53, 54, 55, 56, 57, 97, 98, 99, 100, 101, 102, 103, 104, 105, 106, 107, 108, 109, 110, 111, 112, 113, 114, 115, 116, 117, 118, 119, 120, 121, 122] : Array UInt8).getD d 0
theorem dg_hx (d : Nat) (h : d < 36) : (⟨#[48, 49, 50, 51, 52, 53, 54, 55, 56, 57, 97, 98, 99, 100, 101, 102, 103, 104, 105, 106, 107, 108, 109, 110, 111, 112, 113, 114, 115, 116, 117, 118, 119, 120, 121, 122]⟩ : ByteArray)[d]'(by exact h) = hx d := by
  have hv : ∀ m, (hm : m < 36) → (⟨#[48, 49, 50, 51, 52, 53, 54, 55, 56, 57, 97, 98, 99, 100, 101, 102, 103, 104, 105, 106, 107, 108, 109, 110, 111, 112, 113, 114, 115, 116, 117, 118, 119, 120, 121, 122]⟩ : ByteArray)[m]'(by exact hm) = hx m := by decide +kernel
  exact hv d h
theorem um4 (x : Int) : bits .and .u64 x 15 = x % 16 := by
  show IntKind.u64.wrap ((BitVec.ofInt 64 x &&& BitVec.ofInt 64 15).toNat : Int) = _
  have h1 : (BitVec.ofInt 64 x &&& BitVec.ofInt 64 15).toNat = (BitVec.ofInt 64 x).toNat % 16 := by
    rw [BitVec.toNat_and]
    exact Nat.and_two_pow_sub_one_eq_mod _ 4
  rw [h1, BitVec.toNat_ofInt]
  rw [IntKind.wrap_u64]
  omega
set_option maxRecDepth 100000 in
set_option maxHeartbeats 4000000 in
theorem fb1 (u : Nat) (h1 : u < 16) (w : World) (hc : w.cell? ⟨4, 15, none⟩ = some (.int .u8 4)) :
    Calls Tryd.prog 26 #[.slice none 0 0, .int .u64 u, .int .i64 16, .bool false, .bool false] w fun e w' => e = .returned (.tuple #[.slice none 0 0, .string ⟨[hx u].toArray⟩]) ∧ Below w.heap.size w w' := by
  have hand : bits .and .i64 16 15 = 0 := by decide
  have hc2 : ∀ o, (w.alloc o).cell? ⟨4, 15, none⟩ = some (.int .u8 4) := fun o => cell_later ((Below.refl _ _).alloc (Nat.le_refl _) _) hc
  have HX := Lib.hid (dg_hx u (by omega))
  go_enter Tryd.func26, Tryd.ntmps26
  go_wp2_with (first | (go_at_call 34; refine (tz _ (hc2 _)).mono ?_; rintro e w1 ⟨rfl, rfl⟩) | go_in)
  refine wp_loop_rounds 1 ?_
  rw [rounds_succ]
  go_wp2
  rw [HX.out, cvk w _ [hx u] 1 64 rfl (by intro j hj; rcases j with _ | j <;> first | rfl | (exfalso; simp at hj; done) | (exfalso; simp at hj; omega))]
  go_wp2
  go_ret2
  exact ⟨rfl, (Below.refl _ _).alloc (Nat.le_refl _) _⟩
set_option maxRecDepth 100000 in
set_option maxHeartbeats 4000000 in
theorem fb2 (u v d0 : Nat) (g0 : 16 ≤ u) (k0 : d0 < 16) (e0 : (u : Int) % 16 = (d0 : Int)) (f0 : (u : Int) / 16 = (v : Int)) (hv : v < 16) (hu : u < 65536) (w : World) (hc : w.cell? ⟨4, 15, none⟩ = some (.int .u8 4)) :
    Calls Tryd.prog 26 #[.slice none 0 0, .int .u64 u, .int .i64 16, .bool false, .bool false] w fun e w' => e = .returned (.tuple #[.slice none 0 0, .string ⟨[hx v, hx d0].toArray⟩]) ∧ Below w.heap.size w w' := by
  have hand : bits .and .i64 16 15 = 0 := by decide
  have hc2 : ∀ o, (w.alloc o).cell? ⟨4, 15, none⟩ = some (.int .u8 4) := fun o => cell_later ((Below.refl _ _).alloc (Nat.le_refl _) _) hc
  have HX := Lib.hid (dg_hx v (by omega))
  have HD0 := Lib.hid (dg_hx d0 (by omega))
  have hm0 := um4 (u : Int)
  rw [e0] at hm0
  clear e0
  go_enter Tryd.func26, Tryd.ntmps26
  go_wp2_with (first | (go_at_call 34; refine (tz _ (hc2 _)).mono ?_; rintro e w1 ⟨rfl, rfl⟩) | go_in)
  refine wp_loop_rounds 2 ?_
  rw [rounds_succ]
  go_wp2
  rw [rounds_succ]
  go_wp2
  rw [HX.out, HD0.out, cvk w _ [hx v, hx d0] 2 63 rfl (by intro j hj; rcases j with _ | _ |  j <;> first | rfl | (exfalso; simp at hj; done) | (exfalso; simp at hj; omega))]
  go_wp2
  go_ret2
  exact ⟨rfl, (Below.refl _ _).alloc (Nat.le_refl _) _⟩
set_option maxRecDepth 100000 in
set_option maxHeartbeats 4000000 in
theorem fb3 (u v d0 d1 u1 : Nat) (g0 : 16 ≤ u) (k0 : d0 < 16) (e0 : (u : Int) % 16 = (d0 : Int)) (f0 : (u : Int) / 16 = (u1 : Int)) (g1 : 16 ≤ u1) (k1 : d1 < 16) (e1 : (u1 : Int) % 16 = (d1 : Int)) (f1 : (u1 : Int) / 16 = (v : Int)) (hv : v < 16) (hu : u < 65536) (w : World) (hc : w.cell? ⟨4, 15, none⟩ = some (.int .u8 4)) :
    Calls Tryd.prog 26 #[.slice none 0 0, .int .u64 u, .int .i64 16, .bool false, .bool false] w fun e w' => e = .returned (.tuple #[.slice none 0 0, .string ⟨[hx v, hx d1, hx d0].toArray⟩]) ∧ Below w.heap.size w w' := by
  have hand : bits .and .i64 16 15 = 0 := by decide
  have hc2 : ∀ o, (w.alloc o).cell? ⟨4, 15, none⟩ = some (.int .u8 4) := fun o => cell_later ((Below.refl _ _).alloc (Nat.le_refl _) _) hc
  have HX := Lib.hid (dg_hx v (by omega))
  have HD0 := Lib.hid (dg_hx d0 (by omega))
  have hm0 := um4 (u : Int)
  rw [e0] at hm0
  have HD1 := Lib.hid (dg_hx d1 (by omega))
  have hm1 := um4 (u1 : Int)
  rw [e1] at hm1
  have b1 : u1 < 65536 := by omega
  clear e0 e1
  go_enter Tryd.func26, Tryd.ntmps26
  go_wp2_with (first | (go_at_call 34; refine (tz _ (hc2 _)).mono ?_; rintro e w1 ⟨rfl, rfl⟩) | go_in)
  refine wp_loop_rounds 3 ?_
  rw [rounds_succ]
  go_wp2
  rw [rounds_succ]
  go_wp2
  rw [rounds_succ]
  go_wp2
  rw [HX.out, HD0.out, HD1.out, cvk w _ [hx v, hx d1, hx d0] 3 62 rfl (by intro j hj; rcases j with _ | _ | _ |  j <;> first | rfl | (exfalso; simp at hj; done) | (exfalso; simp at hj; omega))]
  go_wp2
  go_ret2
  exact ⟨rfl, (Below.refl _ _).alloc (Nat.le_refl _) _⟩
set_option maxRecDepth 100000 in
set_option maxHeartbeats 4000000 in
theorem fb4 (u v d0 d1 d2 u1 u2 : Nat) (g0 : 16 ≤ u) (k0 : d0 < 16) (e0 : (u : Int) % 16 = (d0 : Int)) (f0 : (u : Int) / 16 = (u1 : Int)) (g1 : 16 ≤ u1) (k1 : d1 < 16) (e1 : (u1 : Int) % 16 = (d1 : Int)) (f1 : (u1 : Int) / 16 = (u2 : Int)) (g2 : 16 ≤ u2) (k2 : d2 < 16) (e2 : (u2 : Int) % 16 = (d2 : Int)) (f2 : (u2 : Int) / 16 = (v : Int)) (hv : v < 16) (hu : u < 65536) (w : World) (hc : w.cell? ⟨4, 15, none⟩ = some (.int .u8 4)) :
    Calls Tryd.prog 26 #[.slice none 0 0, .int .u64 u, .int .i64 16, .bool false, .bool false] w fun e w' => e = .returned (.tuple #[.slice none 0 0, .string ⟨[hx v, hx d2, hx d1, hx d0].toArray⟩]) ∧ Below w.heap.size w w' := by
  have hand : bits .and .i64 16 15 = 0 := by decide
  have hc2 : ∀ o, (w.alloc o).cell? ⟨4, 15, none⟩ = some (.int .u8 4) := fun o => cell_later ((Below.refl _ _).alloc (Nat.le_refl _) _) hc
  have HX := Lib.hid (dg_hx v (by omega))
  have HD0 := Lib.hid (dg_hx d0 (by omega))
  have hm0 := um4 (u : Int)
  rw [e0] at hm0
  have HD1 := Lib.hid (dg_hx d1 (by omega))
  have hm1 := um4 (u1 : Int)
  rw [e1] at hm1
  have HD2 := Lib.hid (dg_hx d2 (by omega))
  have hm2 := um4 (u2 : Int)
  rw [e2] at hm2
  have b1 : u1 < 65536 := by omega
  have b2 : u2 < 65536 := by omega
  clear e0 e1 e2
  go_enter Tryd.func26, Tryd.ntmps26
  go_wp2_with (first | (go_at_call 34; refine (tz _ (hc2 _)).mono ?_; rintro e w1 ⟨rfl, rfl⟩) | go_in)
  refine wp_loop_rounds 4 ?_
  rw [rounds_succ]
  go_wp2
  rw [rounds_succ]
  go_wp2
  rw [rounds_succ]
  go_wp2
  rw [rounds_succ]
  go_wp2
  rw [HX.out, HD0.out, HD1.out, HD2.out, cvk w _ [hx v, hx d2, hx d1, hx d0] 4 61 rfl (by intro j hj; rcases j with _ | _ | _ | _ |  j <;> first | rfl | (exfalso; simp at hj; done) | (exfalso; simp at hj; omega))]
  go_wp2
  go_ret2
  exact ⟨rfl, (Below.refl _ _).alloc (Nat.le_refl _) _⟩
def hexL (u : Nat) : List UInt8 := if u < 16 then [hx u] else if u < 256 then [hx (u / 16), hx (u % 16)] else if u < 4096 then [hx (u / 256), hx (u / 16 % 16), hx (u % 16)] else [hx (u / 4096), hx (u / 256 % 16), hx (u / 16 % 16), hx (u % 16)]
theorem hexL_len (u : Nat) : (hexL u).length ≤ 4 := by unfold hexL; (repeat' split) <;> simp
theorem fb_c (u : Nat) (h : u < 65536) (w : World) (hc : w.cell? ⟨4, 15, none⟩ = some (.int .u8 4)) :
    Calls Tryd.prog 26 #[.slice none 0 0, .int .u64 u, .int .i64 16, .bool false, .bool false] w fun e w' => e = .returned (.tuple #[.slice none 0 0, .string ⟨(hexL u).toArray⟩]) ∧ Below w.heap.size w w' := by
  unfold hexL
  by_cases h1 : u < 16
  · rw [if_pos h1]; exact fb1 u h1 w hc
  rw [if_neg h1]
  by_cases h2 : u < 256
  · rw [if_pos h2]
    exact fb2 u (u / 16) (u % 16) (by omega) (by omega) (by omega) (by omega) (by omega) h w hc
  rw [if_neg h2]
  by_cases h3 : u < 4096
  · rw [if_pos h3]
    exact fb3 u (u / 256) (u % 16) (u / 16 % 16) (u / 16) (by omega) (by omega) (by omega) (by omega) (by omega) (by omega) (by omega) (by omega) (by omega) h w hc
  rw [if_neg h3]
  exact fb4 u (u / 4096) (u % 16) (u / 16 % 16) (u / 256 % 16) (u / 16) (u / 256) (by omega) (by omega) (by omega) (by omega) (by omega) (by omega) (by omega) (by omega) (by omega) (by omega) (by omega) (by omega) (by omega) h w hc
theorem grown_trans {a b c : World} (h : Grown a b) (h' : Grown b c) : Grown a c :=
  ⟨World.keptBut_trans h.1 h'.1, fun x => (h'.2.1 x).trans (h.2.1 x), Nat.le_trans h.2.2 h'.2.2⟩
def immT (u : Nat) : ByteArray := ⟨#[35]⟩ ++ (⟨#[48, 120]⟩ ++ ⟨(hexL u).toArray⟩)
set_option maxRecDepth 100000 in
set_option maxHeartbeats 1000000 in
theorem imm_c (u : Nat) (h : u < 65536) (w : World) (hc : w.cell? ⟨4, 15, none⟩ = some (.int .u8 4)) :
    Calls Tryd.prog 8 #[.int .i64 u] w fun e w' => e = .returned (.string (immT u)) ∧ Below w.heap.size w w' := by
  have hz : (⟨(hexL u).toArray⟩ : ByteArray).size ≤ 4 := by
    have := hexL_len u
    simpa [ByteArray.size] using this
  have hz2 : (⟨#[48, 120]⟩ ++ ⟨(hexL u).toArray⟩ : ByteArray).size ≤ 6 := by
    rw [ByteArray.size_append]
    have : (⟨#[48, 120]⟩ : ByteArray).size = 2 := rfl
    omega
  have C := fb_c u h w hc
  unfold immT
  generalize (⟨(hexL u).toArray⟩ : ByteArray) = t at *
  have HC := Lib.hid C
  clear C
  go_enter Tryd.func8, Tryd.ntmps8
  go_wp2_with (first | (go_at_call 26; refine HC.out.mono ?_; rintro e w1 ⟨rfl, g⟩; have G := Lib.hid g; clear g) | go_in)
  go_ret
  exact ⟨rfl, G.out⟩
end Go.Proofs.YtcolmmohbfadoaaDoor
