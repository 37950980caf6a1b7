/-
  No cell of these rows narrows 'for every input' (looked for: loops, veiled, ifaces, maps, wideKeys, modest, calm, conditions, laid).
  DERIVED. THE GIVEN ROWS OF THIS SEAT. 12 by the template 'for every input the law returns true; each argument reads behind the call as it read before'; 0 by the template 'total and deterministic' (their statements: YtkickdebbbdpiaaTotals.lean).
  GIVEN WITH THE SEED: the statements are not yours to turn. If you find one false, say at which input.
  Laid BY PROGRAM, IN A SANDBOX (cutbox-rows.mjs): the forced cells as the released guide's own fill.sh prints them over the translation 6dff533b2f32ecbb… (all of the seat's roots in one cut). By AI agents, Wed Nov 11 2026. No macro, syntax, notation, axiom, sorry.
-/
import Derived.Test.YtkickdebbbdpiaaChecked
import GoSem.Claim
import GoSem.ClaimJoined
import GoSem.ClaimMapViews
import Derived.JoinedTies
import Derived.KernelRfl
namespace Go.Proofs.Ytkickdebbbdpiaa
/- THE CELL 'sum', in the pinned program and in every row, IS THE sha256 OF THE DUMP (.gsa) THAT YtkickdebbbdpiaaProg.lean LOADS. Nothing in Lean hashes anything: it is a label: what it is worth is what the hold of that sum in a sandbox is worth. -/
noncomputable def Try.pinned : Pinned := { name := "ytkickdebbbdpiaa", sum := "6dff533b2f32ecbb2bb5b268c36cae28f6cc6aaaf09f97b580dd475962a1dfe3", checked := Try.checked }
namespace Rows
def none {H : Type} : Left H := { results := [], args := [] }

/-- 'laws.FnArgMemR': WHATEVER THE INPUT: true; the input reads as it did. -/
def fnArgMemRSpec : ChangeSpec := { name := "fnArgMemR", fn := fun _ => fun
  | [d] => { results := [.lit (.bool true)], args := [d] }
  | _ => none }
def fnArgMemRRow : OpenClaim := { program := "ytkickdebbbdpiaa", sum := "6dff533b2f32ecbb2bb5b268c36cae28f6cc6aaaf09f97b580dd475962a1dfe3", func := "loop.example/pub-g03133/laws.FnArgMemR", spec := "fnArgMemR", recurses := true, apart := false }
def FnArgMemRSaid : Prop := fnArgMemRRow.holds Try.pinned (OpenSpec.ofChange fnArgMemRSpec)

/-- ITS FALSE NEIGHBOUR: 'it returns false'. Refute it at one input. -/
def fnArgMemRWrong : ChangeSpec := { name := "fnArgMemR", fn := fun _ => fun
  | [d] => { results := [.lit (.bool false)], args := [d] }
  | _ => none }
def FnArgMemRWrongFalsely : Prop := fnArgMemRRow.holds Try.pinned (OpenSpec.ofChange fnArgMemRWrong)

/-- 'laws.FnArgMemRPmImm12Offset': WHATEVER THE INPUT: true; the input reads as it did. -/
def fnArgMemRPmImm12OffsetSpec : ChangeSpec := { name := "fnArgMemRPmImm12Offset", fn := fun _ => fun
  | [d] => { results := [.lit (.bool true)], args := [d] }
  | _ => none }
def fnArgMemRPmImm12OffsetRow : OpenClaim := { program := "ytkickdebbbdpiaa", sum := "6dff533b2f32ecbb2bb5b268c36cae28f6cc6aaaf09f97b580dd475962a1dfe3", func := "loop.example/pub-g03133/laws.FnArgMemRPmImm12Offset", spec := "fnArgMemRPmImm12Offset", recurses := true, apart := false }
def FnArgMemRPmImm12OffsetSaid : Prop := fnArgMemRPmImm12OffsetRow.holds Try.pinned (OpenSpec.ofChange fnArgMemRPmImm12OffsetSpec)

/-- ITS FALSE NEIGHBOUR: 'it returns false'. Refute it at one input. -/
def fnArgMemRPmImm12OffsetWrong : ChangeSpec := { name := "fnArgMemRPmImm12Offset", fn := fun _ => fun
  | [d] => { results := [.lit (.bool false)], args := [d] }
  | _ => none }
def FnArgMemRPmImm12OffsetWrongFalsely : Prop := fnArgMemRPmImm12OffsetRow.holds Try.pinned (OpenSpec.ofChange fnArgMemRPmImm12OffsetWrong)

/-- 'laws.FnArgMemRPmImm12Postindex': WHATEVER THE INPUT: true; the input reads as it did. -/
def fnArgMemRPmImm12PostindexSpec : ChangeSpec := { name := "fnArgMemRPmImm12Postindex", fn := fun _ => fun
  | [d] => { results := [.lit (.bool true)], args := [d] }
  | _ => none }
def fnArgMemRPmImm12PostindexRow : OpenClaim := { program := "ytkickdebbbdpiaa", sum := "6dff533b2f32ecbb2bb5b268c36cae28f6cc6aaaf09f97b580dd475962a1dfe3", func := "loop.example/pub-g03133/laws.FnArgMemRPmImm12Postindex", spec := "fnArgMemRPmImm12Postindex", recurses := true, apart := false }
def FnArgMemRPmImm12PostindexSaid : Prop := fnArgMemRPmImm12PostindexRow.holds Try.pinned (OpenSpec.ofChange fnArgMemRPmImm12PostindexSpec)

/-- ITS FALSE NEIGHBOUR: 'it returns false'. Refute it at one input. -/
def fnArgMemRPmImm12PostindexWrong : ChangeSpec := { name := "fnArgMemRPmImm12Postindex", fn := fun _ => fun
  | [d] => { results := [.lit (.bool false)], args := [d] }
  | _ => none }
def FnArgMemRPmImm12PostindexWrongFalsely : Prop := fnArgMemRPmImm12PostindexRow.holds Try.pinned (OpenSpec.ofChange fnArgMemRPmImm12PostindexWrong)

/-- 'laws.FnArgMemRPmImm12W': WHATEVER THE INPUT: true; the input reads as it did. -/
def fnArgMemRPmImm12WSpec : ChangeSpec := { name := "fnArgMemRPmImm12W", fn := fun _ => fun
  | [d] => { results := [.lit (.bool true)], args := [d] }
  | _ => none }
def fnArgMemRPmImm12WRow : OpenClaim := { program := "ytkickdebbbdpiaa", sum := "6dff533b2f32ecbb2bb5b268c36cae28f6cc6aaaf09f97b580dd475962a1dfe3", func := "loop.example/pub-g03133/laws.FnArgMemRPmImm12W", spec := "fnArgMemRPmImm12W", recurses := true, apart := false }
def FnArgMemRPmImm12WSaid : Prop := fnArgMemRPmImm12WRow.holds Try.pinned (OpenSpec.ofChange fnArgMemRPmImm12WSpec)

/-- ITS FALSE NEIGHBOUR: 'it returns false'. Refute it at one input. -/
def fnArgMemRPmImm12WWrong : ChangeSpec := { name := "fnArgMemRPmImm12W", fn := fun _ => fun
  | [d] => { results := [.lit (.bool false)], args := [d] }
  | _ => none }
def FnArgMemRPmImm12WWrongFalsely : Prop := fnArgMemRPmImm12WRow.holds Try.pinned (OpenSpec.ofChange fnArgMemRPmImm12WWrong)

/-- 'laws.FnArgMemRPmImm8Postindex': WHATEVER THE INPUT: true; the input reads as it did. -/
def fnArgMemRPmImm8PostindexSpec : ChangeSpec := { name := "fnArgMemRPmImm8Postindex", fn := fun _ => fun
  | [d] => { results := [.lit (.bool true)], args := [d] }
  | _ => none }
def fnArgMemRPmImm8PostindexRow : OpenClaim := { program := "ytkickdebbbdpiaa", sum := "6dff533b2f32ecbb2bb5b268c36cae28f6cc6aaaf09f97b580dd475962a1dfe3", func := "loop.example/pub-g03133/laws.FnArgMemRPmImm8Postindex", spec := "fnArgMemRPmImm8Postindex", recurses := true, apart := false }
def FnArgMemRPmImm8PostindexSaid : Prop := fnArgMemRPmImm8PostindexRow.holds Try.pinned (OpenSpec.ofChange fnArgMemRPmImm8PostindexSpec)

/-- ITS FALSE NEIGHBOUR: 'it returns false'. Refute it at one input. -/
def fnArgMemRPmImm8PostindexWrong : ChangeSpec := { name := "fnArgMemRPmImm8Postindex", fn := fun _ => fun
  | [d] => { results := [.lit (.bool false)], args := [d] }
  | _ => none }
def FnArgMemRPmImm8PostindexWrongFalsely : Prop := fnArgMemRPmImm8PostindexRow.holds Try.pinned (OpenSpec.ofChange fnArgMemRPmImm8PostindexWrong)

/-- 'laws.FnArgMemRPmImm8W': WHATEVER THE INPUT: true; the input reads as it did. -/
def fnArgMemRPmImm8WSpec : ChangeSpec := { name := "fnArgMemRPmImm8W", fn := fun _ => fun
  | [d] => { results := [.lit (.bool true)], args := [d] }
  | _ => none }
def fnArgMemRPmImm8WRow : OpenClaim := { program := "ytkickdebbbdpiaa", sum := "6dff533b2f32ecbb2bb5b268c36cae28f6cc6aaaf09f97b580dd475962a1dfe3", func := "loop.example/pub-g03133/laws.FnArgMemRPmImm8W", spec := "fnArgMemRPmImm8W", recurses := true, apart := false }
def FnArgMemRPmImm8WSaid : Prop := fnArgMemRPmImm8WRow.holds Try.pinned (OpenSpec.ofChange fnArgMemRPmImm8WSpec)

/-- ITS FALSE NEIGHBOUR: 'it returns false'. Refute it at one input. -/
def fnArgMemRPmImm8WWrong : ChangeSpec := { name := "fnArgMemRPmImm8W", fn := fun _ => fun
  | [d] => { results := [.lit (.bool false)], args := [d] }
  | _ => none }
def FnArgMemRPmImm8WWrongFalsely : Prop := fnArgMemRPmImm8WRow.holds Try.pinned (OpenSpec.ofChange fnArgMemRPmImm8WWrong)

/-- 'laws.FnArgMemRPmImm8at0Offset': WHATEVER THE INPUT: true; the input reads as it did. -/
def fnArgMemRPmImm8at0OffsetSpec : ChangeSpec := { name := "fnArgMemRPmImm8at0Offset", fn := fun _ => fun
  | [d] => { results := [.lit (.bool true)], args := [d] }
  | _ => none }
def fnArgMemRPmImm8at0OffsetRow : OpenClaim := { program := "ytkickdebbbdpiaa", sum := "6dff533b2f32ecbb2bb5b268c36cae28f6cc6aaaf09f97b580dd475962a1dfe3", func := "loop.example/pub-g03133/laws.FnArgMemRPmImm8at0Offset", spec := "fnArgMemRPmImm8at0Offset", recurses := true, apart := false }
def FnArgMemRPmImm8at0OffsetSaid : Prop := fnArgMemRPmImm8at0OffsetRow.holds Try.pinned (OpenSpec.ofChange fnArgMemRPmImm8at0OffsetSpec)

/-- ITS FALSE NEIGHBOUR: 'it returns false'. Refute it at one input. -/
def fnArgMemRPmImm8at0OffsetWrong : ChangeSpec := { name := "fnArgMemRPmImm8at0Offset", fn := fun _ => fun
  | [d] => { results := [.lit (.bool false)], args := [d] }
  | _ => none }
def FnArgMemRPmImm8at0OffsetWrongFalsely : Prop := fnArgMemRPmImm8at0OffsetRow.holds Try.pinned (OpenSpec.ofChange fnArgMemRPmImm8at0OffsetWrong)

/-- 'laws.FnArgMemRPmRPostindex': WHATEVER THE INPUT: true; the input reads as it did. -/
def fnArgMemRPmRPostindexSpec : ChangeSpec := { name := "fnArgMemRPmRPostindex", fn := fun _ => fun
  | [d] => { results := [.lit (.bool true)], args := [d] }
  | _ => none }
def fnArgMemRPmRPostindexRow : OpenClaim := { program := "ytkickdebbbdpiaa", sum := "6dff533b2f32ecbb2bb5b268c36cae28f6cc6aaaf09f97b580dd475962a1dfe3", func := "loop.example/pub-g03133/laws.FnArgMemRPmRPostindex", spec := "fnArgMemRPmRPostindex", recurses := true, apart := false }
def FnArgMemRPmRPostindexSaid : Prop := fnArgMemRPmRPostindexRow.holds Try.pinned (OpenSpec.ofChange fnArgMemRPmRPostindexSpec)

/-- ITS FALSE NEIGHBOUR: 'it returns false'. Refute it at one input. -/
def fnArgMemRPmRPostindexWrong : ChangeSpec := { name := "fnArgMemRPmRPostindex", fn := fun _ => fun
  | [d] => { results := [.lit (.bool false)], args := [d] }
  | _ => none }
def FnArgMemRPmRPostindexWrongFalsely : Prop := fnArgMemRPmRPostindexRow.holds Try.pinned (OpenSpec.ofChange fnArgMemRPmRPostindexWrong)

/-- 'laws.FnArgMemRPmRShiftImmOffset': WHATEVER THE INPUT: true; the input reads as it did. -/
def fnArgMemRPmRShiftImmOffsetSpec : ChangeSpec := { name := "fnArgMemRPmRShiftImmOffset", fn := fun _ => fun
  | [d] => { results := [.lit (.bool true)], args := [d] }
  | _ => none }
def fnArgMemRPmRShiftImmOffsetRow : OpenClaim := { program := "ytkickdebbbdpiaa", sum := "6dff533b2f32ecbb2bb5b268c36cae28f6cc6aaaf09f97b580dd475962a1dfe3", func := "loop.example/pub-g03133/laws.FnArgMemRPmRShiftImmOffset", spec := "fnArgMemRPmRShiftImmOffset", recurses := true, apart := false }
def FnArgMemRPmRShiftImmOffsetSaid : Prop := fnArgMemRPmRShiftImmOffsetRow.holds Try.pinned (OpenSpec.ofChange fnArgMemRPmRShiftImmOffsetSpec)

/-- ITS FALSE NEIGHBOUR: 'it returns false'. Refute it at one input. -/
def fnArgMemRPmRShiftImmOffsetWrong : ChangeSpec := { name := "fnArgMemRPmRShiftImmOffset", fn := fun _ => fun
  | [d] => { results := [.lit (.bool false)], args := [d] }
  | _ => none }
def FnArgMemRPmRShiftImmOffsetWrongFalsely : Prop := fnArgMemRPmRShiftImmOffsetRow.holds Try.pinned (OpenSpec.ofChange fnArgMemRPmRShiftImmOffsetWrong)

/-- 'laws.FnArgMemRPmRShiftImmPostindex': WHATEVER THE INPUT: true; the input reads as it did. -/
def fnArgMemRPmRShiftImmPostindexSpec : ChangeSpec := { name := "fnArgMemRPmRShiftImmPostindex", fn := fun _ => fun
  | [d] => { results := [.lit (.bool true)], args := [d] }
  | _ => none }
def fnArgMemRPmRShiftImmPostindexRow : OpenClaim := { program := "ytkickdebbbdpiaa", sum := "6dff533b2f32ecbb2bb5b268c36cae28f6cc6aaaf09f97b580dd475962a1dfe3", func := "loop.example/pub-g03133/laws.FnArgMemRPmRShiftImmPostindex", spec := "fnArgMemRPmRShiftImmPostindex", recurses := true, apart := false }
def FnArgMemRPmRShiftImmPostindexSaid : Prop := fnArgMemRPmRShiftImmPostindexRow.holds Try.pinned (OpenSpec.ofChange fnArgMemRPmRShiftImmPostindexSpec)

/-- ITS FALSE NEIGHBOUR: 'it returns false'. Refute it at one input. -/
def fnArgMemRPmRShiftImmPostindexWrong : ChangeSpec := { name := "fnArgMemRPmRShiftImmPostindex", fn := fun _ => fun
  | [d] => { results := [.lit (.bool false)], args := [d] }
  | _ => none }
def FnArgMemRPmRShiftImmPostindexWrongFalsely : Prop := fnArgMemRPmRShiftImmPostindexRow.holds Try.pinned (OpenSpec.ofChange fnArgMemRPmRShiftImmPostindexWrong)

/-- 'laws.FnArgMemRPmRShiftImmW': WHATEVER THE INPUT: true; the input reads as it did. -/
def fnArgMemRPmRShiftImmWSpec : ChangeSpec := { name := "fnArgMemRPmRShiftImmW", fn := fun _ => fun
  | [d] => { results := [.lit (.bool true)], args := [d] }
  | _ => none }
def fnArgMemRPmRShiftImmWRow : OpenClaim := { program := "ytkickdebbbdpiaa", sum := "6dff533b2f32ecbb2bb5b268c36cae28f6cc6aaaf09f97b580dd475962a1dfe3", func := "loop.example/pub-g03133/laws.FnArgMemRPmRShiftImmW", spec := "fnArgMemRPmRShiftImmW", recurses := true, apart := false }
def FnArgMemRPmRShiftImmWSaid : Prop := fnArgMemRPmRShiftImmWRow.holds Try.pinned (OpenSpec.ofChange fnArgMemRPmRShiftImmWSpec)

/-- ITS FALSE NEIGHBOUR: 'it returns false'. Refute it at one input. -/
def fnArgMemRPmRShiftImmWWrong : ChangeSpec := { name := "fnArgMemRPmRShiftImmW", fn := fun _ => fun
  | [d] => { results := [.lit (.bool false)], args := [d] }
  | _ => none }
def FnArgMemRPmRShiftImmWWrongFalsely : Prop := fnArgMemRPmRShiftImmWRow.holds Try.pinned (OpenSpec.ofChange fnArgMemRPmRShiftImmWWrong)

/-- 'laws.FnArgMemRPmRW': WHATEVER THE INPUT: true; the input reads as it did. -/
def fnArgMemRPmRWSpec : ChangeSpec := { name := "fnArgMemRPmRW", fn := fun _ => fun
  | [d] => { results := [.lit (.bool true)], args := [d] }
  | _ => none }
def fnArgMemRPmRWRow : OpenClaim := { program := "ytkickdebbbdpiaa", sum := "6dff533b2f32ecbb2bb5b268c36cae28f6cc6aaaf09f97b580dd475962a1dfe3", func := "loop.example/pub-g03133/laws.FnArgMemRPmRW", spec := "fnArgMemRPmRW", recurses := true, apart := false }
def FnArgMemRPmRWSaid : Prop := fnArgMemRPmRWRow.holds Try.pinned (OpenSpec.ofChange fnArgMemRPmRWSpec)

/-- ITS FALSE NEIGHBOUR: 'it returns false'. Refute it at one input. -/
def fnArgMemRPmRWWrong : ChangeSpec := { name := "fnArgMemRPmRW", fn := fun _ => fun
  | [d] => { results := [.lit (.bool false)], args := [d] }
  | _ => none }
def FnArgMemRPmRWWrongFalsely : Prop := fnArgMemRPmRWRow.holds Try.pinned (OpenSpec.ofChange fnArgMemRPmRWWrong)

/- THE SECOND FORM. 'bulk': how many values and letters a reading holds, each counted each time it is reached (what is shared counts as often as it is met; a slice's spare places count too). A statement '..UptoSaid' is the law's where the arguments, and the package variables that the reading takes, are together of bulk at most 1048576: NARROWER than '..Said'. Prove '..Said' where nothing that the law and all that it calls make is longer than what came in: it says more and counts as full. Else prove '..UptoSaid'. A law counts once. -/
mutual
def uptoBulk {H : Type} : DataW H → Nat
  | .lit (.string bytes) => bytes.length + 1
  | .lit _ => 1
  | .nil => 1
  | .ptr d => uptoBulk d + 1
  | .slice elems spare => uptoBulkAll elems + uptoBulkAll spare + 1
  | .agg parts => uptoBulkAll parts + 1
  | .iface _ d => uptoBulk d + 1
  | .map entries => uptoBulkEntries entries + 1
  | .held _ => 1
def uptoBulkAll {H : Type} : List (DataW H) → Nat
  | [] => 0
  | d :: r => uptoBulk d + uptoBulkAll r
def uptoBulkEntries {H : Type} : List (Lit × DataW H) → Nat
  | [] => 0
  | x :: r => uptoBulkEntry x + uptoBulkEntries r
def uptoBulkEntry {H : Type} : Lit × DataW H → Nat
  | (.string bytes, d) => bytes.length + uptoBulk d + 1
  | (_, d) => uptoBulk d + 1
 end
def uptoSmall : (H : Type) → List (DataW H) → Bool := fun _ ds => decide (uptoBulkAll ds ≤ 1048576)
def OpenSpec.upto (s : _root_.Go.ChangeSpec) : _root_.Go.OpenSpec := { _root_.Go.OpenSpec.ofChange s with cond := some uptoSmall }

/-- 'laws.FnArgMemR', WHERE WHAT IT READS IS OF BULK AT MOST 1048576: true; the input reads as it did. -/
def fnArgMemRUptoRow : OpenClaim := { program := "ytkickdebbbdpiaa", sum := "6dff533b2f32ecbb2bb5b268c36cae28f6cc6aaaf09f97b580dd475962a1dfe3", func := "loop.example/pub-g03133/laws.FnArgMemR", spec := "fnArgMemR", recurses := true, apart := false, narrowed := true }
def FnArgMemRUptoSaid : Prop := fnArgMemRUptoRow.holds Try.pinned (OpenSpec.upto fnArgMemRSpec)

/-- 'laws.FnArgMemRPmImm12Offset', WHERE WHAT IT READS IS OF BULK AT MOST 1048576: true; the input reads as it did. -/
def fnArgMemRPmImm12OffsetUptoRow : OpenClaim := { program := "ytkickdebbbdpiaa", sum := "6dff533b2f32ecbb2bb5b268c36cae28f6cc6aaaf09f97b580dd475962a1dfe3", func := "loop.example/pub-g03133/laws.FnArgMemRPmImm12Offset", spec := "fnArgMemRPmImm12Offset", recurses := true, apart := false, narrowed := true }
def FnArgMemRPmImm12OffsetUptoSaid : Prop := fnArgMemRPmImm12OffsetUptoRow.holds Try.pinned (OpenSpec.upto fnArgMemRPmImm12OffsetSpec)

/-- 'laws.FnArgMemRPmImm12Postindex', WHERE WHAT IT READS IS OF BULK AT MOST 1048576: true; the input reads as it did. -/
def fnArgMemRPmImm12PostindexUptoRow : OpenClaim := { program := "ytkickdebbbdpiaa", sum := "6dff533b2f32ecbb2bb5b268c36cae28f6cc6aaaf09f97b580dd475962a1dfe3", func := "loop.example/pub-g03133/laws.FnArgMemRPmImm12Postindex", spec := "fnArgMemRPmImm12Postindex", recurses := true, apart := false, narrowed := true }
def FnArgMemRPmImm12PostindexUptoSaid : Prop := fnArgMemRPmImm12PostindexUptoRow.holds Try.pinned (OpenSpec.upto fnArgMemRPmImm12PostindexSpec)

/-- 'laws.FnArgMemRPmImm12W', WHERE WHAT IT READS IS OF BULK AT MOST 1048576: true; the input reads as it did. -/
def fnArgMemRPmImm12WUptoRow : OpenClaim := { program := "ytkickdebbbdpiaa", sum := "6dff533b2f32ecbb2bb5b268c36cae28f6cc6aaaf09f97b580dd475962a1dfe3", func := "loop.example/pub-g03133/laws.FnArgMemRPmImm12W", spec := "fnArgMemRPmImm12W", recurses := true, apart := false, narrowed := true }
def FnArgMemRPmImm12WUptoSaid : Prop := fnArgMemRPmImm12WUptoRow.holds Try.pinned (OpenSpec.upto fnArgMemRPmImm12WSpec)

/-- 'laws.FnArgMemRPmImm8Postindex', WHERE WHAT IT READS IS OF BULK AT MOST 1048576: true; the input reads as it did. -/
def fnArgMemRPmImm8PostindexUptoRow : OpenClaim := { program := "ytkickdebbbdpiaa", sum := "6dff533b2f32ecbb2bb5b268c36cae28f6cc6aaaf09f97b580dd475962a1dfe3", func := "loop.example/pub-g03133/laws.FnArgMemRPmImm8Postindex", spec := "fnArgMemRPmImm8Postindex", recurses := true, apart := false, narrowed := true }
def FnArgMemRPmImm8PostindexUptoSaid : Prop := fnArgMemRPmImm8PostindexUptoRow.holds Try.pinned (OpenSpec.upto fnArgMemRPmImm8PostindexSpec)

/-- 'laws.FnArgMemRPmImm8W', WHERE WHAT IT READS IS OF BULK AT MOST 1048576: true; the input reads as it did. -/
def fnArgMemRPmImm8WUptoRow : OpenClaim := { program := "ytkickdebbbdpiaa", sum := "6dff533b2f32ecbb2bb5b268c36cae28f6cc6aaaf09f97b580dd475962a1dfe3", func := "loop.example/pub-g03133/laws.FnArgMemRPmImm8W", spec := "fnArgMemRPmImm8W", recurses := true, apart := false, narrowed := true }
def FnArgMemRPmImm8WUptoSaid : Prop := fnArgMemRPmImm8WUptoRow.holds Try.pinned (OpenSpec.upto fnArgMemRPmImm8WSpec)

/-- 'laws.FnArgMemRPmImm8at0Offset', WHERE WHAT IT READS IS OF BULK AT MOST 1048576: true; the input reads as it did. -/
def fnArgMemRPmImm8at0OffsetUptoRow : OpenClaim := { program := "ytkickdebbbdpiaa", sum := "6dff533b2f32ecbb2bb5b268c36cae28f6cc6aaaf09f97b580dd475962a1dfe3", func := "loop.example/pub-g03133/laws.FnArgMemRPmImm8at0Offset", spec := "fnArgMemRPmImm8at0Offset", recurses := true, apart := false, narrowed := true }
def FnArgMemRPmImm8at0OffsetUptoSaid : Prop := fnArgMemRPmImm8at0OffsetUptoRow.holds Try.pinned (OpenSpec.upto fnArgMemRPmImm8at0OffsetSpec)

/-- 'laws.FnArgMemRPmRPostindex', WHERE WHAT IT READS IS OF BULK AT MOST 1048576: true; the input reads as it did. -/
def fnArgMemRPmRPostindexUptoRow : OpenClaim := { program := "ytkickdebbbdpiaa", sum := "6dff533b2f32ecbb2bb5b268c36cae28f6cc6aaaf09f97b580dd475962a1dfe3", func := "loop.example/pub-g03133/laws.FnArgMemRPmRPostindex", spec := "fnArgMemRPmRPostindex", recurses := true, apart := false, narrowed := true }
def FnArgMemRPmRPostindexUptoSaid : Prop := fnArgMemRPmRPostindexUptoRow.holds Try.pinned (OpenSpec.upto fnArgMemRPmRPostindexSpec)

/-- 'laws.FnArgMemRPmRShiftImmOffset', WHERE WHAT IT READS IS OF BULK AT MOST 1048576: true; the input reads as it did. -/
def fnArgMemRPmRShiftImmOffsetUptoRow : OpenClaim := { program := "ytkickdebbbdpiaa", sum := "6dff533b2f32ecbb2bb5b268c36cae28f6cc6aaaf09f97b580dd475962a1dfe3", func := "loop.example/pub-g03133/laws.FnArgMemRPmRShiftImmOffset", spec := "fnArgMemRPmRShiftImmOffset", recurses := true, apart := false, narrowed := true }
def FnArgMemRPmRShiftImmOffsetUptoSaid : Prop := fnArgMemRPmRShiftImmOffsetUptoRow.holds Try.pinned (OpenSpec.upto fnArgMemRPmRShiftImmOffsetSpec)

/-- 'laws.FnArgMemRPmRShiftImmPostindex', WHERE WHAT IT READS IS OF BULK AT MOST 1048576: true; the input reads as it did. -/
def fnArgMemRPmRShiftImmPostindexUptoRow : OpenClaim := { program := "ytkickdebbbdpiaa", sum := "6dff533b2f32ecbb2bb5b268c36cae28f6cc6aaaf09f97b580dd475962a1dfe3", func := "loop.example/pub-g03133/laws.FnArgMemRPmRShiftImmPostindex", spec := "fnArgMemRPmRShiftImmPostindex", recurses := true, apart := false, narrowed := true }
def FnArgMemRPmRShiftImmPostindexUptoSaid : Prop := fnArgMemRPmRShiftImmPostindexUptoRow.holds Try.pinned (OpenSpec.upto fnArgMemRPmRShiftImmPostindexSpec)

/-- 'laws.FnArgMemRPmRShiftImmW', WHERE WHAT IT READS IS OF BULK AT MOST 1048576: true; the input reads as it did. -/
def fnArgMemRPmRShiftImmWUptoRow : OpenClaim := { program := "ytkickdebbbdpiaa", sum := "6dff533b2f32ecbb2bb5b268c36cae28f6cc6aaaf09f97b580dd475962a1dfe3", func := "loop.example/pub-g03133/laws.FnArgMemRPmRShiftImmW", spec := "fnArgMemRPmRShiftImmW", recurses := true, apart := false, narrowed := true }
def FnArgMemRPmRShiftImmWUptoSaid : Prop := fnArgMemRPmRShiftImmWUptoRow.holds Try.pinned (OpenSpec.upto fnArgMemRPmRShiftImmWSpec)

/-- 'laws.FnArgMemRPmRW', WHERE WHAT IT READS IS OF BULK AT MOST 1048576: true; the input reads as it did. -/
def fnArgMemRPmRWUptoRow : OpenClaim := { program := "ytkickdebbbdpiaa", sum := "6dff533b2f32ecbb2bb5b268c36cae28f6cc6aaaf09f97b580dd475962a1dfe3", func := "loop.example/pub-g03133/laws.FnArgMemRPmRW", spec := "fnArgMemRPmRW", recurses := true, apart := false, narrowed := true }
def FnArgMemRPmRWUptoSaid : Prop := fnArgMemRPmRWUptoRow.holds Try.pinned (OpenSpec.upto fnArgMemRPmRWSpec)

end Rows
end Go.Proofs.Ytkickdebbbdpiaa
