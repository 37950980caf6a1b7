/- The contract of spec.F (a field of a word), and small lemmas on worlds and results. -/
import Derived.Test.YtplljlgomameeaaRows
import Derived.Test.YtplljlgomameeaaBits
import Derived.WalkKit
import Derived.ProofKit
import Derived.OpenShut
import Derived.Deep.QuietTactic
import Derived.BigQuiet
import Derived.Lib.Hide
namespace Go.Proofs.Ytplljlgomameeaa
open Go.ChangeShapes Go.WideShapes Go.ChangeAt Go.RowKit
theorem grown_trans {a b c : World} (h : Grown a b) (h' : Grown b c) : Grown a c :=
  ⟨World.keptBut_trans h.1 h'.1, fun x => (h'.2.1 x).trans (h.2.1 x), Nat.le_trans h.2.2 h'.2.2⟩
theorem tup2 {k k' : IntKind} {a b c d : Int} (h : a = c) (h' : b = d) : Ending.returned (.tuple #[.int k a, .int k' b]) = .returned (.tuple #[.int k c, .int k' d]) := by rw [h, h']
theorem ri {T : TypeId} {k : IntKind} {a b : Int} (h : a = b) : Ending.returned (.iface T (.int k a)) = .returned (.iface T (.int k b)) := by rw [h]
theorem ri2 {T : TypeId} {k k' : IntKind} {a b a' b' : Int} (h : a = b) (h' : a' = b') : Ending.returned (.iface T (.agg #[.int k a, .int k' a'])) = .returned (.iface T (.agg #[.int k b, .int k' b'])) := by rw [h, h']
set_option maxHeartbeats 400000 in
theorem F_c (x a n : Int) (hb : 0 ≤ x) (hb' : x ≤ 4294967295) (ha : 0 ≤ a) (_ha' : a ≤ 31) (hn : 0 ≤ n) (hn' : n ≤ 24) (w : World) :
    Calls Try.prog 22 #[.int .u32 x, .int .i64 a, .int .i64 n] w fun e w' => e = .returned (.int .i64 (fld x a n)) ∧ ∃ m, w' = w.drewN m := by
  have hv := fld_val x a n hb hb' ha hn hn'
  go_enter Try.func22, Try.ntmps22
  go_wp2
  go_quiet (fail)
  go_wp2
  go_ret
  exact ⟨rfl, _, rfl⟩
end Go.Proofs.Ytplljlgomameeaa
