/- The contract of spec.F (a field of a word), and small lemmas on worlds and results. -/
import Derived.Test.YtpigbldoaemamaaRows
import Derived.Test.YtpigbldoaemamaaBits
import Derived.WalkKit
import Derived.ProofKit
import Derived.OpenShut
import Derived.Deep.QuietTactic
import Derived.BigQuiet
import Derived.Lib.Hide
namespace Go.Proofs.Ytpigbldoaemamaa
open Go.ChangeShapes Go.WideShapes Go.ChangeAt Go.RowKit
theorem grown_trans {a b c : World} (h : Grown a b) (h' : Grown b c) : Grown a c :=
  ⟨World.keptBut_trans h.1 h'.1, fun x => (h'.2.1 x).trans (h.2.1 x), Nat.le_trans h.2.2 h'.2.2⟩
theorem grown_drewN {W w' : World} {n : Nat} (h : Grown W w') : Grown W (w'.drewN n) := h
theorem grown_set {W w' : World} {o : Nat} {v : Value} (h : Grown W w') : Grown W (w'.setCell ⟨W.heap.size, o, none⟩ v) := h.setCell (Nat.le_refl _) v
theorem grown_set1 {W w' : World} {o : Nat} {v : Value} (h : Grown W w') : Grown W (w'.setCell ⟨W.heap.size + 1, o, none⟩ v) := h.setCell (Nat.le_succ _) v
theorem tup2 {k k' : IntKind} {a b c d : Int} (h : a = c) (h' : b = d) : Ending.returned (.tuple #[.int k a, .int k' b]) = .returned (.tuple #[.int k c, .int k' d]) := by rw [h, h']
theorem ri {T : TypeId} {k : IntKind} {a b : Int} (h : a = b) : Ending.returned (.iface T (.int k a)) = .returned (.iface T (.int k b)) := by rw [h]
theorem ri2 {T : TypeId} {k k' : IntKind} {a b a' b' : Int} (h : a = b) (h' : a' = b') : Ending.returned (.iface T (.agg #[.int k a, .int k' a'])) = .returned (.iface T (.agg #[.int k b, .int k' b'])) := by rw [h, h']
theorem ri3 {T : TypeId} {a b a' b' a'' b'' : Int} (h : a = b) (h' : a' = b') (h'' : a'' = b'') : Ending.returned (.iface T (.agg #[.int .u8 a, .int .u8 a', .int .u8 a''])) = .returned (.iface T (.agg #[.int .u8 b, .int .u8 b', .int .u8 b''])) := by rw [h, h', h'']
theorem rmem {T : TypeId} {a1 a2 a3 a4 a5 a6 a7 b1 b2 b3 b4 b5 b6 b7 : Int} (h1 : a1 = b1) (h2 : a2 = b2) (h3 : a3 = b3) (h4 : a4 = b4) (h5 : a5 = b5) (h6 : a6 = b6) (h7 : a7 = b7) :
    Ending.returned (.iface T (.agg #[.int .u8 a1, .int .u8 a2, .int .i8 a3, .int .u8 a4, .int .u8 a5, .int .u8 a6, .int .i16 a7])) = .returned (.iface T (.agg #[.int .u8 b1, .int .u8 b2, .int .i8 b3, .int .u8 b4, .int .u8 b5, .int .u8 b6, .int .i16 b7])) := by
  rw [h1, h2, h3, h4, h5, h6, h7]
theorem rint {k : IntKind} {a b : Int} (h : a = b) : Ending.returned (.int k a) = .returned (.int k b) := by rw [h]
theorem fld_bd (x a n : Int) (N : Int) (hN : 2 ^ n.toNat = N) : 0 ≤ fld x a n ∧ fld x a n < N := by
  have hq : (0 : Int) < 2 ^ n.toNat := Int.pow_pos (by decide)
  unfold fld
  rw [← hN]
  exact ⟨Int.emod_nonneg _ (by omega), Int.emod_lt_of_pos _ hq⟩
set_option maxHeartbeats 400000 in
theorem F_c (x a n : Int) (hb : 0 ≤ x) (hb' : x ≤ 4294967295) (ha : 0 ≤ a) (_ha' : a ≤ 31) (hn : 0 ≤ n) (hn' : n ≤ 24) (w : World) :
    Calls Try.prog 19 #[.int .u32 x, .int .i64 a, .int .i64 n] w fun e w' => e = .returned (.int .i64 (fld x a n)) ∧ ∃ m, w' = w.drewN m := by
  have hv := fld_val x a n hb hb' ha hn hn'
  go_enter Try.func19, Try.ntmps19
  go_wp2
  go_quiet (fail)
  go_wp2
  go_ret
  exact ⟨rfl, _, rfl⟩
end Go.Proofs.Ytpigbldoaemamaa
