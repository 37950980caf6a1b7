/-
  No cell of these rows narrows 'for every input' (looked for: loops, veiled, ifaces, maps, wideKeys, modest, calm, conditions, laid).
  DERIVED. THE GIVEN ROWS OF THIS SEAT. 12 by the template 'for every input the law returns true; each argument reads behind the call as it read before'; 0 by the template 'total and deterministic' (their statements: YtbfcdbadkpibnaaTotals.lean).
  GIVEN WITH THE SEED: the statements are not yours to turn. If you find one false, say at which input.
  Laid BY PROGRAM, IN A SANDBOX (cutbox-rows.mjs): the forced cells as the released guide's own fill.sh prints them over the translation 021c68fd579dc6cc… (all of the seat's roots in one cut). By AI agents, Wed Nov 11 2026. No macro, syntax, notation, axiom, sorry.
-/
import Derived.Test.YtbfcdbadkpibnaaChecked
import GoSem.Claim
import GoSem.ClaimJoined
import GoSem.ClaimMapViews
import Derived.JoinedTies
import Derived.KernelRfl
namespace Go.Proofs.Ytbfcdbadkpibnaa
/- THE CELL 'sum', in the pinned program and in every row, IS THE sha256 OF THE DUMP (.gsa) THAT YtbfcdbadkpibnaaProg.lean LOADS. Nothing in Lean hashes anything: it is a label: what it is worth is what the hold of that sum in a sandbox is worth. -/
noncomputable def Try.pinned : Pinned := { name := "ytbfcdbadkpibnaa", sum := "021c68fd579dc6cc2a0b6ed7b462e0baf4a1e1f137d4aa68bc4ef836b9cd4208", checked := Try.checked }
namespace Rows
def none {H : Type} : Left H := { results := [], args := [] }

/-- 'laws.FnArgR10': WHATEVER THE INPUT: true; the input reads as it did. -/
def fnArgR10Spec : ChangeSpec := { name := "fnArgR10", fn := fun _ => fun
  | [d] => { results := [.lit (.bool true)], args := [d] }
  | _ => none }
def fnArgR10Row : OpenClaim := { program := "ytbfcdbadkpibnaa", sum := "021c68fd579dc6cc2a0b6ed7b462e0baf4a1e1f137d4aa68bc4ef836b9cd4208", func := "loop.example/pub-g03133/laws.FnArgR10", spec := "fnArgR10", recurses := true, apart := false }
def FnArgR10Said : Prop := fnArgR10Row.holds Try.pinned (OpenSpec.ofChange fnArgR10Spec)

/-- ITS FALSE NEIGHBOUR: 'it returns false'. Refute it at one input. -/
def fnArgR10Wrong : ChangeSpec := { name := "fnArgR10", fn := fun _ => fun
  | [d] => { results := [.lit (.bool false)], args := [d] }
  | _ => none }
def FnArgR10WrongFalsely : Prop := fnArgR10Row.holds Try.pinned (OpenSpec.ofChange fnArgR10Wrong)

/-- 'laws.FnArgR112': WHATEVER THE INPUT: true; the input reads as it did. -/
def fnArgR112Spec : ChangeSpec := { name := "fnArgR112", fn := fun _ => fun
  | [d] => { results := [.lit (.bool true)], args := [d] }
  | _ => none }
def fnArgR112Row : OpenClaim := { program := "ytbfcdbadkpibnaa", sum := "021c68fd579dc6cc2a0b6ed7b462e0baf4a1e1f137d4aa68bc4ef836b9cd4208", func := "loop.example/pub-g03133/laws.FnArgR112", spec := "fnArgR112", recurses := true, apart := false }
def FnArgR112Said : Prop := fnArgR112Row.holds Try.pinned (OpenSpec.ofChange fnArgR112Spec)

/-- ITS FALSE NEIGHBOUR: 'it returns false'. Refute it at one input. -/
def fnArgR112Wrong : ChangeSpec := { name := "fnArgR112", fn := fun _ => fun
  | [d] => { results := [.lit (.bool false)], args := [d] }
  | _ => none }
def FnArgR112WrongFalsely : Prop := fnArgR112Row.holds Try.pinned (OpenSpec.ofChange fnArgR112Wrong)

/-- 'laws.FnArgR12': WHATEVER THE INPUT: true; the input reads as it did. -/
def fnArgR12Spec : ChangeSpec := { name := "fnArgR12", fn := fun _ => fun
  | [d] => { results := [.lit (.bool true)], args := [d] }
  | _ => none }
def fnArgR12Row : OpenClaim := { program := "ytbfcdbadkpibnaa", sum := "021c68fd579dc6cc2a0b6ed7b462e0baf4a1e1f137d4aa68bc4ef836b9cd4208", func := "loop.example/pub-g03133/laws.FnArgR12", spec := "fnArgR12", recurses := true, apart := false }
def FnArgR12Said : Prop := fnArgR12Row.holds Try.pinned (OpenSpec.ofChange fnArgR12Spec)

/-- ITS FALSE NEIGHBOUR: 'it returns false'. Refute it at one input. -/
def fnArgR12Wrong : ChangeSpec := { name := "fnArgR12", fn := fun _ => fun
  | [d] => { results := [.lit (.bool false)], args := [d] }
  | _ => none }
def FnArgR12WrongFalsely : Prop := fnArgR12Row.holds Try.pinned (OpenSpec.ofChange fnArgR12Wrong)

/-- 'laws.FnArgR12Nzcv': WHATEVER THE INPUT: true; the input reads as it did. -/
def fnArgR12NzcvSpec : ChangeSpec := { name := "fnArgR12Nzcv", fn := fun _ => fun
  | [d] => { results := [.lit (.bool true)], args := [d] }
  | _ => none }
def fnArgR12NzcvRow : OpenClaim := { program := "ytbfcdbadkpibnaa", sum := "021c68fd579dc6cc2a0b6ed7b462e0baf4a1e1f137d4aa68bc4ef836b9cd4208", func := "loop.example/pub-g03133/laws.FnArgR12Nzcv", spec := "fnArgR12Nzcv", recurses := true, apart := false }
def FnArgR12NzcvSaid : Prop := fnArgR12NzcvRow.holds Try.pinned (OpenSpec.ofChange fnArgR12NzcvSpec)

/-- ITS FALSE NEIGHBOUR: 'it returns false'. Refute it at one input. -/
def fnArgR12NzcvWrong : ChangeSpec := { name := "fnArgR12Nzcv", fn := fun _ => fun
  | [d] => { results := [.lit (.bool false)], args := [d] }
  | _ => none }
def FnArgR12NzcvWrongFalsely : Prop := fnArgR12NzcvRow.holds Try.pinned (OpenSpec.ofChange fnArgR12NzcvWrong)

/-- 'laws.FnArgR16': WHATEVER THE INPUT: true; the input reads as it did. -/
def fnArgR16Spec : ChangeSpec := { name := "fnArgR16", fn := fun _ => fun
  | [d] => { results := [.lit (.bool true)], args := [d] }
  | _ => none }
def fnArgR16Row : OpenClaim := { program := "ytbfcdbadkpibnaa", sum := "021c68fd579dc6cc2a0b6ed7b462e0baf4a1e1f137d4aa68bc4ef836b9cd4208", func := "loop.example/pub-g03133/laws.FnArgR16", spec := "fnArgR16", recurses := true, apart := false }
def FnArgR16Said : Prop := fnArgR16Row.holds Try.pinned (OpenSpec.ofChange fnArgR16Spec)

/-- ITS FALSE NEIGHBOUR: 'it returns false'. Refute it at one input. -/
def fnArgR16Wrong : ChangeSpec := { name := "fnArgR16", fn := fun _ => fun
  | [d] => { results := [.lit (.bool false)], args := [d] }
  | _ => none }
def FnArgR16WrongFalsely : Prop := fnArgR16Row.holds Try.pinned (OpenSpec.ofChange fnArgR16Wrong)

/-- 'laws.FnArgR16WB': WHATEVER THE INPUT: true; the input reads as it did. -/
def fnArgR16WBSpec : ChangeSpec := { name := "fnArgR16WB", fn := fun _ => fun
  | [d] => { results := [.lit (.bool true)], args := [d] }
  | _ => none }
def fnArgR16WBRow : OpenClaim := { program := "ytbfcdbadkpibnaa", sum := "021c68fd579dc6cc2a0b6ed7b462e0baf4a1e1f137d4aa68bc4ef836b9cd4208", func := "loop.example/pub-g03133/laws.FnArgR16WB", spec := "fnArgR16WB", recurses := true, apart := false }
def FnArgR16WBSaid : Prop := fnArgR16WBRow.holds Try.pinned (OpenSpec.ofChange fnArgR16WBSpec)

/-- ITS FALSE NEIGHBOUR: 'it returns false'. Refute it at one input. -/
def fnArgR16WBWrong : ChangeSpec := { name := "fnArgR16WB", fn := fun _ => fun
  | [d] => { results := [.lit (.bool false)], args := [d] }
  | _ => none }
def FnArgR16WBWrongFalsely : Prop := fnArgR16WBRow.holds Try.pinned (OpenSpec.ofChange fnArgR16WBWrong)

/-- 'laws.FnArgR20': WHATEVER THE INPUT: true; the input reads as it did. -/
def fnArgR20Spec : ChangeSpec := { name := "fnArgR20", fn := fun _ => fun
  | [d] => { results := [.lit (.bool true)], args := [d] }
  | _ => none }
def fnArgR20Row : OpenClaim := { program := "ytbfcdbadkpibnaa", sum := "021c68fd579dc6cc2a0b6ed7b462e0baf4a1e1f137d4aa68bc4ef836b9cd4208", func := "loop.example/pub-g03133/laws.FnArgR20", spec := "fnArgR20", recurses := true, apart := false }
def FnArgR20Said : Prop := fnArgR20Row.holds Try.pinned (OpenSpec.ofChange fnArgR20Spec)

/-- ITS FALSE NEIGHBOUR: 'it returns false'. Refute it at one input. -/
def fnArgR20Wrong : ChangeSpec := { name := "fnArgR20", fn := fun _ => fun
  | [d] => { results := [.lit (.bool false)], args := [d] }
  | _ => none }
def FnArgR20WrongFalsely : Prop := fnArgR20Row.holds Try.pinned (OpenSpec.ofChange fnArgR20Wrong)

/-- 'laws.FnArgR212': WHATEVER THE INPUT: true; the input reads as it did. -/
def fnArgR212Spec : ChangeSpec := { name := "fnArgR212", fn := fun _ => fun
  | [d] => { results := [.lit (.bool true)], args := [d] }
  | _ => none }
def fnArgR212Row : OpenClaim := { program := "ytbfcdbadkpibnaa", sum := "021c68fd579dc6cc2a0b6ed7b462e0baf4a1e1f137d4aa68bc4ef836b9cd4208", func := "loop.example/pub-g03133/laws.FnArgR212", spec := "fnArgR212", recurses := true, apart := false }
def FnArgR212Said : Prop := fnArgR212Row.holds Try.pinned (OpenSpec.ofChange fnArgR212Spec)

/-- ITS FALSE NEIGHBOUR: 'it returns false'. Refute it at one input. -/
def fnArgR212Wrong : ChangeSpec := { name := "fnArgR212", fn := fun _ => fun
  | [d] => { results := [.lit (.bool false)], args := [d] }
  | _ => none }
def FnArgR212WrongFalsely : Prop := fnArgR212Row.holds Try.pinned (OpenSpec.ofChange fnArgR212Wrong)

/-- 'laws.FnArgR8': WHATEVER THE INPUT: true; the input reads as it did. -/
def fnArgR8Spec : ChangeSpec := { name := "fnArgR8", fn := fun _ => fun
  | [d] => { results := [.lit (.bool true)], args := [d] }
  | _ => none }
def fnArgR8Row : OpenClaim := { program := "ytbfcdbadkpibnaa", sum := "021c68fd579dc6cc2a0b6ed7b462e0baf4a1e1f137d4aa68bc4ef836b9cd4208", func := "loop.example/pub-g03133/laws.FnArgR8", spec := "fnArgR8", recurses := true, apart := false }
def FnArgR8Said : Prop := fnArgR8Row.holds Try.pinned (OpenSpec.ofChange fnArgR8Spec)

/-- ITS FALSE NEIGHBOUR: 'it returns false'. Refute it at one input. -/
def fnArgR8Wrong : ChangeSpec := { name := "fnArgR8", fn := fun _ => fun
  | [d] => { results := [.lit (.bool false)], args := [d] }
  | _ => none }
def FnArgR8WrongFalsely : Prop := fnArgR8Row.holds Try.pinned (OpenSpec.ofChange fnArgR8Wrong)

/-- 'laws.FnArgRRotate': WHATEVER THE INPUT: true; the input reads as it did. -/
def fnArgRRotateSpec : ChangeSpec := { name := "fnArgRRotate", fn := fun _ => fun
  | [d] => { results := [.lit (.bool true)], args := [d] }
  | _ => none }
def fnArgRRotateRow : OpenClaim := { program := "ytbfcdbadkpibnaa", sum := "021c68fd579dc6cc2a0b6ed7b462e0baf4a1e1f137d4aa68bc4ef836b9cd4208", func := "loop.example/pub-g03133/laws.FnArgRRotate", spec := "fnArgRRotate", recurses := true, apart := false }
def FnArgRRotateSaid : Prop := fnArgRRotateRow.holds Try.pinned (OpenSpec.ofChange fnArgRRotateSpec)

/-- ITS FALSE NEIGHBOUR: 'it returns false'. Refute it at one input. -/
def fnArgRRotateWrong : ChangeSpec := { name := "fnArgRRotate", fn := fun _ => fun
  | [d] => { results := [.lit (.bool false)], args := [d] }
  | _ => none }
def FnArgRRotateWrongFalsely : Prop := fnArgRRotateRow.holds Try.pinned (OpenSpec.ofChange fnArgRRotateWrong)

/-- 'laws.FnArgRShiftImm': WHATEVER THE INPUT: true; the input reads as it did. -/
def fnArgRShiftImmSpec : ChangeSpec := { name := "fnArgRShiftImm", fn := fun _ => fun
  | [d] => { results := [.lit (.bool true)], args := [d] }
  | _ => none }
def fnArgRShiftImmRow : OpenClaim := { program := "ytbfcdbadkpibnaa", sum := "021c68fd579dc6cc2a0b6ed7b462e0baf4a1e1f137d4aa68bc4ef836b9cd4208", func := "loop.example/pub-g03133/laws.FnArgRShiftImm", spec := "fnArgRShiftImm", recurses := true, apart := false }
def FnArgRShiftImmSaid : Prop := fnArgRShiftImmRow.holds Try.pinned (OpenSpec.ofChange fnArgRShiftImmSpec)

/-- ITS FALSE NEIGHBOUR: 'it returns false'. Refute it at one input. -/
def fnArgRShiftImmWrong : ChangeSpec := { name := "fnArgRShiftImm", fn := fun _ => fun
  | [d] => { results := [.lit (.bool false)], args := [d] }
  | _ => none }
def FnArgRShiftImmWrongFalsely : Prop := fnArgRShiftImmRow.holds Try.pinned (OpenSpec.ofChange fnArgRShiftImmWrong)

/-- 'laws.FnArgRShiftR': WHATEVER THE INPUT: true; the input reads as it did. -/
def fnArgRShiftRSpec : ChangeSpec := { name := "fnArgRShiftR", fn := fun _ => fun
  | [d] => { results := [.lit (.bool true)], args := [d] }
  | _ => none }
def fnArgRShiftRRow : OpenClaim := { program := "ytbfcdbadkpibnaa", sum := "021c68fd579dc6cc2a0b6ed7b462e0baf4a1e1f137d4aa68bc4ef836b9cd4208", func := "loop.example/pub-g03133/laws.FnArgRShiftR", spec := "fnArgRShiftR", recurses := true, apart := false }
def FnArgRShiftRSaid : Prop := fnArgRShiftRRow.holds Try.pinned (OpenSpec.ofChange fnArgRShiftRSpec)

/-- ITS FALSE NEIGHBOUR: 'it returns false'. Refute it at one input. -/
def fnArgRShiftRWrong : ChangeSpec := { name := "fnArgRShiftR", fn := fun _ => fun
  | [d] => { results := [.lit (.bool false)], args := [d] }
  | _ => none }
def FnArgRShiftRWrongFalsely : Prop := fnArgRShiftRRow.holds Try.pinned (OpenSpec.ofChange fnArgRShiftRWrong)

/- THE SECOND FORM. 'bulk': how many values and letters a reading holds, each counted each time it is reached (what is shared counts as often as it is met; a slice's spare places count too). A statement '..UptoSaid' is the law's where the arguments, and the package variables that the reading takes, are together of bulk at most 1048576: NARROWER than '..Said'. Prove '..Said' where nothing that the law and all that it calls make is longer than what came in: it says more and counts as full. Else prove '..UptoSaid'. A law counts once. -/
mutual
def uptoBulk {H : Type} : DataW H → Nat
  | .lit (.string bytes) => bytes.length + 1
  | .lit _ => 1
  | .nil => 1
  | .ptr d => uptoBulk d + 1
  | .slice elems spare => uptoBulkAll elems + uptoBulkAll spare + 1
  | .agg parts => uptoBulkAll parts + 1
  | .iface _ d => uptoBulk d + 1
  | .map entries => uptoBulkEntries entries + 1
  | .held _ => 1
def uptoBulkAll {H : Type} : List (DataW H) → Nat
  | [] => 0
  | d :: r => uptoBulk d + uptoBulkAll r
def uptoBulkEntries {H : Type} : List (Lit × DataW H) → Nat
  | [] => 0
  | x :: r => uptoBulkEntry x + uptoBulkEntries r
def uptoBulkEntry {H : Type} : Lit × DataW H → Nat
  | (.string bytes, d) => bytes.length + uptoBulk d + 1
  | (_, d) => uptoBulk d + 1
 end
def uptoSmall : (H : Type) → List (DataW H) → Bool := fun _ ds => decide (uptoBulkAll ds ≤ 1048576)
def OpenSpec.upto (s : _root_.Go.ChangeSpec) : _root_.Go.OpenSpec := { _root_.Go.OpenSpec.ofChange s with cond := some uptoSmall }

/-- 'laws.FnArgR10', WHERE WHAT IT READS IS OF BULK AT MOST 1048576: true; the input reads as it did. -/
def fnArgR10UptoRow : OpenClaim := { program := "ytbfcdbadkpibnaa", sum := "021c68fd579dc6cc2a0b6ed7b462e0baf4a1e1f137d4aa68bc4ef836b9cd4208", func := "loop.example/pub-g03133/laws.FnArgR10", spec := "fnArgR10", recurses := true, apart := false, narrowed := true }
def FnArgR10UptoSaid : Prop := fnArgR10UptoRow.holds Try.pinned (OpenSpec.upto fnArgR10Spec)

/-- 'laws.FnArgR112', WHERE WHAT IT READS IS OF BULK AT MOST 1048576: true; the input reads as it did. -/
def fnArgR112UptoRow : OpenClaim := { program := "ytbfcdbadkpibnaa", sum := "021c68fd579dc6cc2a0b6ed7b462e0baf4a1e1f137d4aa68bc4ef836b9cd4208", func := "loop.example/pub-g03133/laws.FnArgR112", spec := "fnArgR112", recurses := true, apart := false, narrowed := true }
def FnArgR112UptoSaid : Prop := fnArgR112UptoRow.holds Try.pinned (OpenSpec.upto fnArgR112Spec)

/-- 'laws.FnArgR12', WHERE WHAT IT READS IS OF BULK AT MOST 1048576: true; the input reads as it did. -/
def fnArgR12UptoRow : OpenClaim := { program := "ytbfcdbadkpibnaa", sum := "021c68fd579dc6cc2a0b6ed7b462e0baf4a1e1f137d4aa68bc4ef836b9cd4208", func := "loop.example/pub-g03133/laws.FnArgR12", spec := "fnArgR12", recurses := true, apart := false, narrowed := true }
def FnArgR12UptoSaid : Prop := fnArgR12UptoRow.holds Try.pinned (OpenSpec.upto fnArgR12Spec)

/-- 'laws.FnArgR12Nzcv', WHERE WHAT IT READS IS OF BULK AT MOST 1048576: true; the input reads as it did. -/
def fnArgR12NzcvUptoRow : OpenClaim := { program := "ytbfcdbadkpibnaa", sum := "021c68fd579dc6cc2a0b6ed7b462e0baf4a1e1f137d4aa68bc4ef836b9cd4208", func := "loop.example/pub-g03133/laws.FnArgR12Nzcv", spec := "fnArgR12Nzcv", recurses := true, apart := false, narrowed := true }
def FnArgR12NzcvUptoSaid : Prop := fnArgR12NzcvUptoRow.holds Try.pinned (OpenSpec.upto fnArgR12NzcvSpec)

/-- 'laws.FnArgR16', WHERE WHAT IT READS IS OF BULK AT MOST 1048576: true; the input reads as it did. -/
def fnArgR16UptoRow : OpenClaim := { program := "ytbfcdbadkpibnaa", sum := "021c68fd579dc6cc2a0b6ed7b462e0baf4a1e1f137d4aa68bc4ef836b9cd4208", func := "loop.example/pub-g03133/laws.FnArgR16", spec := "fnArgR16", recurses := true, apart := false, narrowed := true }
def FnArgR16UptoSaid : Prop := fnArgR16UptoRow.holds Try.pinned (OpenSpec.upto fnArgR16Spec)

/-- 'laws.FnArgR16WB', WHERE WHAT IT READS IS OF BULK AT MOST 1048576: true; the input reads as it did. -/
def fnArgR16WBUptoRow : OpenClaim := { program := "ytbfcdbadkpibnaa", sum := "021c68fd579dc6cc2a0b6ed7b462e0baf4a1e1f137d4aa68bc4ef836b9cd4208", func := "loop.example/pub-g03133/laws.FnArgR16WB", spec := "fnArgR16WB", recurses := true, apart := false, narrowed := true }
def FnArgR16WBUptoSaid : Prop := fnArgR16WBUptoRow.holds Try.pinned (OpenSpec.upto fnArgR16WBSpec)

/-- 'laws.FnArgR20', WHERE WHAT IT READS IS OF BULK AT MOST 1048576: true; the input reads as it did. -/
def fnArgR20UptoRow : OpenClaim := { program := "ytbfcdbadkpibnaa", sum := "021c68fd579dc6cc2a0b6ed7b462e0baf4a1e1f137d4aa68bc4ef836b9cd4208", func := "loop.example/pub-g03133/laws.FnArgR20", spec := "fnArgR20", recurses := true, apart := false, narrowed := true }
def FnArgR20UptoSaid : Prop := fnArgR20UptoRow.holds Try.pinned (OpenSpec.upto fnArgR20Spec)

/-- 'laws.FnArgR212', WHERE WHAT IT READS IS OF BULK AT MOST 1048576: true; the input reads as it did. -/
def fnArgR212UptoRow : OpenClaim := { program := "ytbfcdbadkpibnaa", sum := "021c68fd579dc6cc2a0b6ed7b462e0baf4a1e1f137d4aa68bc4ef836b9cd4208", func := "loop.example/pub-g03133/laws.FnArgR212", spec := "fnArgR212", recurses := true, apart := false, narrowed := true }
def FnArgR212UptoSaid : Prop := fnArgR212UptoRow.holds Try.pinned (OpenSpec.upto fnArgR212Spec)

/-- 'laws.FnArgR8', WHERE WHAT IT READS IS OF BULK AT MOST 1048576: true; the input reads as it did. -/
def fnArgR8UptoRow : OpenClaim := { program := "ytbfcdbadkpibnaa", sum := "021c68fd579dc6cc2a0b6ed7b462e0baf4a1e1f137d4aa68bc4ef836b9cd4208", func := "loop.example/pub-g03133/laws.FnArgR8", spec := "fnArgR8", recurses := true, apart := false, narrowed := true }
def FnArgR8UptoSaid : Prop := fnArgR8UptoRow.holds Try.pinned (OpenSpec.upto fnArgR8Spec)

/-- 'laws.FnArgRRotate', WHERE WHAT IT READS IS OF BULK AT MOST 1048576: true; the input reads as it did. -/
def fnArgRRotateUptoRow : OpenClaim := { program := "ytbfcdbadkpibnaa", sum := "021c68fd579dc6cc2a0b6ed7b462e0baf4a1e1f137d4aa68bc4ef836b9cd4208", func := "loop.example/pub-g03133/laws.FnArgRRotate", spec := "fnArgRRotate", recurses := true, apart := false, narrowed := true }
def FnArgRRotateUptoSaid : Prop := fnArgRRotateUptoRow.holds Try.pinned (OpenSpec.upto fnArgRRotateSpec)

/-- 'laws.FnArgRShiftImm', WHERE WHAT IT READS IS OF BULK AT MOST 1048576: true; the input reads as it did. -/
def fnArgRShiftImmUptoRow : OpenClaim := { program := "ytbfcdbadkpibnaa", sum := "021c68fd579dc6cc2a0b6ed7b462e0baf4a1e1f137d4aa68bc4ef836b9cd4208", func := "loop.example/pub-g03133/laws.FnArgRShiftImm", spec := "fnArgRShiftImm", recurses := true, apart := false, narrowed := true }
def FnArgRShiftImmUptoSaid : Prop := fnArgRShiftImmUptoRow.holds Try.pinned (OpenSpec.upto fnArgRShiftImmSpec)

/-- 'laws.FnArgRShiftR', WHERE WHAT IT READS IS OF BULK AT MOST 1048576: true; the input reads as it did. -/
def fnArgRShiftRUptoRow : OpenClaim := { program := "ytbfcdbadkpibnaa", sum := "021c68fd579dc6cc2a0b6ed7b462e0baf4a1e1f137d4aa68bc4ef836b9cd4208", func := "loop.example/pub-g03133/laws.FnArgRShiftR", spec := "fnArgRShiftR", recurses := true, apart := false, narrowed := true }
def FnArgRShiftRUptoSaid : Prop := fnArgRShiftRUptoRow.holds Try.pinned (OpenSpec.upto fnArgRShiftRSpec)

end Rows
end Go.Proofs.Ytbfcdbadkpibnaa
