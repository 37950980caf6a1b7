/-
  No cell of these rows narrows 'for every input' (looked for: loops, veiled, ifaces, maps, wideKeys, modest, calm, conditions, laid).
  DERIVED. THE GIVEN ROWS OF THIS SEAT. 12 by the template 'for every input the law returns true; each argument reads behind the call as it read before'; 0 by the template 'total and deterministic' (their statements: YtplljlgomameeaaTotals.lean).
  GIVEN WITH THE SEED: the statements are not yours to turn. If you find one false, say at which input.
  Laid BY PROGRAM, IN A SANDBOX (cutbox-rows.mjs): the forced cells as the released guide's own fill.sh prints them over the translation 0a8b2dcae8ec420f… (all of the seat's roots in one cut). By AI agents, Wed Nov 11 2026. No macro, syntax, notation, axiom, sorry.
-/
import Derived.Test.YtplljlgomameeaaChecked
import GoSem.Claim
import GoSem.ClaimJoined
import GoSem.ClaimMapViews
import Derived.JoinedTies
import Derived.KernelRfl
namespace Go.Proofs.Ytplljlgomameeaa
/- THE CELL 'sum', in the pinned program and in every row, IS THE sha256 OF THE DUMP (.gsa) THAT YtplljlgomameeaaProg.lean LOADS. Nothing in Lean hashes anything: it is a label: what it is worth is what the hold of that sum in a sandbox is worth. -/
noncomputable def Try.pinned : Pinned := { name := "ytplljlgomameeaa", sum := "0a8b2dcae8ec420f3c486cfa0d65f5ec1b92fddbe28e2a4b79bbd0fa8e651581", checked := Try.checked }
namespace Rows
def none {H : Type} : Left H := { results := [], args := [] }

/-- 'laws.FnArgAPSR': WHATEVER THE INPUT: true; the input reads as it did. -/
def fnArgAPSRSpec : ChangeSpec := { name := "fnArgAPSR", fn := fun _ => fun
  | [d] => { results := [.lit (.bool true)], args := [d] }
  | _ => none }
def fnArgAPSRRow : OpenClaim := { program := "ytplljlgomameeaa", sum := "0a8b2dcae8ec420f3c486cfa0d65f5ec1b92fddbe28e2a4b79bbd0fa8e651581", func := "loop.example/pub-g03133/laws.FnArgAPSR", spec := "fnArgAPSR", recurses := true, apart := false }
def FnArgAPSRSaid : Prop := fnArgAPSRRow.holds Try.pinned (OpenSpec.ofChange fnArgAPSRSpec)

/-- ITS FALSE NEIGHBOUR: 'it returns false'. Refute it at one input. -/
def fnArgAPSRWrong : ChangeSpec := { name := "fnArgAPSR", fn := fun _ => fun
  | [d] => { results := [.lit (.bool false)], args := [d] }
  | _ => none }
def FnArgAPSRWrongFalsely : Prop := fnArgAPSRRow.holds Try.pinned (OpenSpec.ofChange fnArgAPSRWrong)

/-- 'laws.FnArgConst': WHATEVER THE INPUT: true; the input reads as it did. -/
def fnArgConstSpec : ChangeSpec := { name := "fnArgConst", fn := fun _ => fun
  | [d] => { results := [.lit (.bool true)], args := [d] }
  | _ => none }
def fnArgConstRow : OpenClaim := { program := "ytplljlgomameeaa", sum := "0a8b2dcae8ec420f3c486cfa0d65f5ec1b92fddbe28e2a4b79bbd0fa8e651581", func := "loop.example/pub-g03133/laws.FnArgConst", spec := "fnArgConst", recurses := true, apart := false }
def FnArgConstSaid : Prop := fnArgConstRow.holds Try.pinned (OpenSpec.ofChange fnArgConstSpec)

/-- ITS FALSE NEIGHBOUR: 'it returns false'. Refute it at one input. -/
def fnArgConstWrong : ChangeSpec := { name := "fnArgConst", fn := fun _ => fun
  | [d] => { results := [.lit (.bool false)], args := [d] }
  | _ => none }
def FnArgConstWrongFalsely : Prop := fnArgConstRow.holds Try.pinned (OpenSpec.ofChange fnArgConstWrong)

/-- 'laws.FnArgDdSd': WHATEVER THE INPUT: true; the input reads as it did. -/
def fnArgDdSdSpec : ChangeSpec := { name := "fnArgDdSd", fn := fun _ => fun
  | [d] => { results := [.lit (.bool true)], args := [d] }
  | _ => none }
def fnArgDdSdRow : OpenClaim := { program := "ytplljlgomameeaa", sum := "0a8b2dcae8ec420f3c486cfa0d65f5ec1b92fddbe28e2a4b79bbd0fa8e651581", func := "loop.example/pub-g03133/laws.FnArgDdSd", spec := "fnArgDdSd", recurses := true, apart := false }
def FnArgDdSdSaid : Prop := fnArgDdSdRow.holds Try.pinned (OpenSpec.ofChange fnArgDdSdSpec)

/-- ITS FALSE NEIGHBOUR: 'it returns false'. Refute it at one input. -/
def fnArgDdSdWrong : ChangeSpec := { name := "fnArgDdSd", fn := fun _ => fun
  | [d] => { results := [.lit (.bool false)], args := [d] }
  | _ => none }
def FnArgDdSdWrongFalsely : Prop := fnArgDdSdRow.holds Try.pinned (OpenSpec.ofChange fnArgDdSdWrong)

/-- 'laws.FnArgDnHalf': WHATEVER THE INPUT: true; the input reads as it did. -/
def fnArgDnHalfSpec : ChangeSpec := { name := "fnArgDnHalf", fn := fun _ => fun
  | [d] => { results := [.lit (.bool true)], args := [d] }
  | _ => none }
def fnArgDnHalfRow : OpenClaim := { program := "ytplljlgomameeaa", sum := "0a8b2dcae8ec420f3c486cfa0d65f5ec1b92fddbe28e2a4b79bbd0fa8e651581", func := "loop.example/pub-g03133/laws.FnArgDnHalf", spec := "fnArgDnHalf", recurses := true, apart := false }
def FnArgDnHalfSaid : Prop := fnArgDnHalfRow.holds Try.pinned (OpenSpec.ofChange fnArgDnHalfSpec)

/-- ITS FALSE NEIGHBOUR: 'it returns false'. Refute it at one input. -/
def fnArgDnHalfWrong : ChangeSpec := { name := "fnArgDnHalf", fn := fun _ => fun
  | [d] => { results := [.lit (.bool false)], args := [d] }
  | _ => none }
def FnArgDnHalfWrongFalsely : Prop := fnArgDnHalfRow.holds Try.pinned (OpenSpec.ofChange fnArgDnHalfWrong)

/-- 'laws.FnArgEndian': WHATEVER THE INPUT: true; the input reads as it did. -/
def fnArgEndianSpec : ChangeSpec := { name := "fnArgEndian", fn := fun _ => fun
  | [d] => { results := [.lit (.bool true)], args := [d] }
  | _ => none }
def fnArgEndianRow : OpenClaim := { program := "ytplljlgomameeaa", sum := "0a8b2dcae8ec420f3c486cfa0d65f5ec1b92fddbe28e2a4b79bbd0fa8e651581", func := "loop.example/pub-g03133/laws.FnArgEndian", spec := "fnArgEndian", recurses := true, apart := false }
def FnArgEndianSaid : Prop := fnArgEndianRow.holds Try.pinned (OpenSpec.ofChange fnArgEndianSpec)

/-- ITS FALSE NEIGHBOUR: 'it returns false'. Refute it at one input. -/
def fnArgEndianWrong : ChangeSpec := { name := "fnArgEndian", fn := fun _ => fun
  | [d] => { results := [.lit (.bool false)], args := [d] }
  | _ => none }
def FnArgEndianWrongFalsely : Prop := fnArgEndianRow.holds Try.pinned (OpenSpec.ofChange fnArgEndianWrong)

/-- 'laws.FnArgFPSCR': WHATEVER THE INPUT: true; the input reads as it did. -/
def fnArgFPSCRSpec : ChangeSpec := { name := "fnArgFPSCR", fn := fun _ => fun
  | [d] => { results := [.lit (.bool true)], args := [d] }
  | _ => none }
def fnArgFPSCRRow : OpenClaim := { program := "ytplljlgomameeaa", sum := "0a8b2dcae8ec420f3c486cfa0d65f5ec1b92fddbe28e2a4b79bbd0fa8e651581", func := "loop.example/pub-g03133/laws.FnArgFPSCR", spec := "fnArgFPSCR", recurses := true, apart := false }
def FnArgFPSCRSaid : Prop := fnArgFPSCRRow.holds Try.pinned (OpenSpec.ofChange fnArgFPSCRSpec)

/-- ITS FALSE NEIGHBOUR: 'it returns false'. Refute it at one input. -/
def fnArgFPSCRWrong : ChangeSpec := { name := "fnArgFPSCR", fn := fun _ => fun
  | [d] => { results := [.lit (.bool false)], args := [d] }
  | _ => none }
def FnArgFPSCRWrongFalsely : Prop := fnArgFPSCRRow.holds Try.pinned (OpenSpec.ofChange fnArgFPSCRWrong)

/-- 'laws.FnArgFbits': WHATEVER THE INPUT: true; the input reads as it did. -/
def fnArgFbitsSpec : ChangeSpec := { name := "fnArgFbits", fn := fun _ => fun
  | [d] => { results := [.lit (.bool true)], args := [d] }
  | _ => none }
def fnArgFbitsRow : OpenClaim := { program := "ytplljlgomameeaa", sum := "0a8b2dcae8ec420f3c486cfa0d65f5ec1b92fddbe28e2a4b79bbd0fa8e651581", func := "loop.example/pub-g03133/laws.FnArgFbits", spec := "fnArgFbits", recurses := true, apart := false }
def FnArgFbitsSaid : Prop := fnArgFbitsRow.holds Try.pinned (OpenSpec.ofChange fnArgFbitsSpec)

/-- ITS FALSE NEIGHBOUR: 'it returns false'. Refute it at one input. -/
def fnArgFbitsWrong : ChangeSpec := { name := "fnArgFbits", fn := fun _ => fun
  | [d] => { results := [.lit (.bool false)], args := [d] }
  | _ => none }
def FnArgFbitsWrongFalsely : Prop := fnArgFbitsRow.holds Try.pinned (OpenSpec.ofChange fnArgFbitsWrong)

/-- 'laws.FnArgFp0': WHATEVER THE INPUT: true; the input reads as it did. -/
def fnArgFp0Spec : ChangeSpec := { name := "fnArgFp0", fn := fun _ => fun
  | [d] => { results := [.lit (.bool true)], args := [d] }
  | _ => none }
def fnArgFp0Row : OpenClaim := { program := "ytplljlgomameeaa", sum := "0a8b2dcae8ec420f3c486cfa0d65f5ec1b92fddbe28e2a4b79bbd0fa8e651581", func := "loop.example/pub-g03133/laws.FnArgFp0", spec := "fnArgFp0", recurses := true, apart := false }
def FnArgFp0Said : Prop := fnArgFp0Row.holds Try.pinned (OpenSpec.ofChange fnArgFp0Spec)

/-- ITS FALSE NEIGHBOUR: 'it returns false'. Refute it at one input. -/
def fnArgFp0Wrong : ChangeSpec := { name := "fnArgFp0", fn := fun _ => fun
  | [d] => { results := [.lit (.bool false)], args := [d] }
  | _ => none }
def FnArgFp0WrongFalsely : Prop := fnArgFp0Row.holds Try.pinned (OpenSpec.ofChange fnArgFp0Wrong)

/-- 'laws.FnArgImm12at84at0': WHATEVER THE INPUT: true; the input reads as it did. -/
def fnArgImm12at84at0Spec : ChangeSpec := { name := "fnArgImm12at84at0", fn := fun _ => fun
  | [d] => { results := [.lit (.bool true)], args := [d] }
  | _ => none }
def fnArgImm12at84at0Row : OpenClaim := { program := "ytplljlgomameeaa", sum := "0a8b2dcae8ec420f3c486cfa0d65f5ec1b92fddbe28e2a4b79bbd0fa8e651581", func := "loop.example/pub-g03133/laws.FnArgImm12at84at0", spec := "fnArgImm12at84at0", recurses := true, apart := false }
def FnArgImm12at84at0Said : Prop := fnArgImm12at84at0Row.holds Try.pinned (OpenSpec.ofChange fnArgImm12at84at0Spec)

/-- ITS FALSE NEIGHBOUR: 'it returns false'. Refute it at one input. -/
def fnArgImm12at84at0Wrong : ChangeSpec := { name := "fnArgImm12at84at0", fn := fun _ => fun
  | [d] => { results := [.lit (.bool false)], args := [d] }
  | _ => none }
def FnArgImm12at84at0WrongFalsely : Prop := fnArgImm12at84at0Row.holds Try.pinned (OpenSpec.ofChange fnArgImm12at84at0Wrong)

/-- 'laws.FnArgImm24': WHATEVER THE INPUT: true; the input reads as it did. -/
def fnArgImm24Spec : ChangeSpec := { name := "fnArgImm24", fn := fun _ => fun
  | [d] => { results := [.lit (.bool true)], args := [d] }
  | _ => none }
def fnArgImm24Row : OpenClaim := { program := "ytplljlgomameeaa", sum := "0a8b2dcae8ec420f3c486cfa0d65f5ec1b92fddbe28e2a4b79bbd0fa8e651581", func := "loop.example/pub-g03133/laws.FnArgImm24", spec := "fnArgImm24", recurses := true, apart := false }
def FnArgImm24Said : Prop := fnArgImm24Row.holds Try.pinned (OpenSpec.ofChange fnArgImm24Spec)

/-- ITS FALSE NEIGHBOUR: 'it returns false'. Refute it at one input. -/
def fnArgImm24Wrong : ChangeSpec := { name := "fnArgImm24", fn := fun _ => fun
  | [d] => { results := [.lit (.bool false)], args := [d] }
  | _ => none }
def FnArgImm24WrongFalsely : Prop := fnArgImm24Row.holds Try.pinned (OpenSpec.ofChange fnArgImm24Wrong)

/-- 'laws.FnArgImm4at1612at0': WHATEVER THE INPUT: true; the input reads as it did. -/
def fnArgImm4at1612at0Spec : ChangeSpec := { name := "fnArgImm4at1612at0", fn := fun _ => fun
  | [d] => { results := [.lit (.bool true)], args := [d] }
  | _ => none }
def fnArgImm4at1612at0Row : OpenClaim := { program := "ytplljlgomameeaa", sum := "0a8b2dcae8ec420f3c486cfa0d65f5ec1b92fddbe28e2a4b79bbd0fa8e651581", func := "loop.example/pub-g03133/laws.FnArgImm4at1612at0", spec := "fnArgImm4at1612at0", recurses := true, apart := false }
def FnArgImm4at1612at0Said : Prop := fnArgImm4at1612at0Row.holds Try.pinned (OpenSpec.ofChange fnArgImm4at1612at0Spec)

/-- ITS FALSE NEIGHBOUR: 'it returns false'. Refute it at one input. -/
def fnArgImm4at1612at0Wrong : ChangeSpec := { name := "fnArgImm4at1612at0", fn := fun _ => fun
  | [d] => { results := [.lit (.bool false)], args := [d] }
  | _ => none }
def FnArgImm4at1612at0WrongFalsely : Prop := fnArgImm4at1612at0Row.holds Try.pinned (OpenSpec.ofChange fnArgImm4at1612at0Wrong)

/-- 'laws.FnArgImm5': WHATEVER THE INPUT: true; the input reads as it did. -/
def fnArgImm5Spec : ChangeSpec := { name := "fnArgImm5", fn := fun _ => fun
  | [d] => { results := [.lit (.bool true)], args := [d] }
  | _ => none }
def fnArgImm5Row : OpenClaim := { program := "ytplljlgomameeaa", sum := "0a8b2dcae8ec420f3c486cfa0d65f5ec1b92fddbe28e2a4b79bbd0fa8e651581", func := "loop.example/pub-g03133/laws.FnArgImm5", spec := "fnArgImm5", recurses := true, apart := false }
def FnArgImm5Said : Prop := fnArgImm5Row.holds Try.pinned (OpenSpec.ofChange fnArgImm5Spec)

/-- ITS FALSE NEIGHBOUR: 'it returns false'. Refute it at one input. -/
def fnArgImm5Wrong : ChangeSpec := { name := "fnArgImm5", fn := fun _ => fun
  | [d] => { results := [.lit (.bool false)], args := [d] }
  | _ => none }
def FnArgImm5WrongFalsely : Prop := fnArgImm5Row.holds Try.pinned (OpenSpec.ofChange fnArgImm5Wrong)

/- THE SECOND FORM. 'bulk': how many values and letters a reading holds, each counted each time it is reached (what is shared counts as often as it is met; a slice's spare places count too). A statement '..UptoSaid' is the law's where the arguments, and the package variables that the reading takes, are together of bulk at most 1048576: NARROWER than '..Said'. Prove '..Said' where nothing that the law and all that it calls make is longer than what came in: it says more and counts as full. Else prove '..UptoSaid'. A law counts once. -/
mutual
def uptoBulk {H : Type} : DataW H → Nat
  | .lit (.string bytes) => bytes.length + 1
  | .lit _ => 1
  | .nil => 1
  | .ptr d => uptoBulk d + 1
  | .slice elems spare => uptoBulkAll elems + uptoBulkAll spare + 1
  | .agg parts => uptoBulkAll parts + 1
  | .iface _ d => uptoBulk d + 1
  | .map entries => uptoBulkEntries entries + 1
  | .held _ => 1
def uptoBulkAll {H : Type} : List (DataW H) → Nat
  | [] => 0
  | d :: r => uptoBulk d + uptoBulkAll r
def uptoBulkEntries {H : Type} : List (Lit × DataW H) → Nat
  | [] => 0
  | x :: r => uptoBulkEntry x + uptoBulkEntries r
def uptoBulkEntry {H : Type} : Lit × DataW H → Nat
  | (.string bytes, d) => bytes.length + uptoBulk d + 1
  | (_, d) => uptoBulk d + 1
 end
def uptoSmall : (H : Type) → List (DataW H) → Bool := fun _ ds => decide (uptoBulkAll ds ≤ 1048576)
def OpenSpec.upto (s : _root_.Go.ChangeSpec) : _root_.Go.OpenSpec := { _root_.Go.OpenSpec.ofChange s with cond := some uptoSmall }

/-- 'laws.FnArgAPSR', WHERE WHAT IT READS IS OF BULK AT MOST 1048576: true; the input reads as it did. -/
def fnArgAPSRUptoRow : OpenClaim := { program := "ytplljlgomameeaa", sum := "0a8b2dcae8ec420f3c486cfa0d65f5ec1b92fddbe28e2a4b79bbd0fa8e651581", func := "loop.example/pub-g03133/laws.FnArgAPSR", spec := "fnArgAPSR", recurses := true, apart := false, narrowed := true }
def FnArgAPSRUptoSaid : Prop := fnArgAPSRUptoRow.holds Try.pinned (OpenSpec.upto fnArgAPSRSpec)

/-- 'laws.FnArgConst', WHERE WHAT IT READS IS OF BULK AT MOST 1048576: true; the input reads as it did. -/
def fnArgConstUptoRow : OpenClaim := { program := "ytplljlgomameeaa", sum := "0a8b2dcae8ec420f3c486cfa0d65f5ec1b92fddbe28e2a4b79bbd0fa8e651581", func := "loop.example/pub-g03133/laws.FnArgConst", spec := "fnArgConst", recurses := true, apart := false, narrowed := true }
def FnArgConstUptoSaid : Prop := fnArgConstUptoRow.holds Try.pinned (OpenSpec.upto fnArgConstSpec)

/-- 'laws.FnArgDdSd', WHERE WHAT IT READS IS OF BULK AT MOST 1048576: true; the input reads as it did. -/
def fnArgDdSdUptoRow : OpenClaim := { program := "ytplljlgomameeaa", sum := "0a8b2dcae8ec420f3c486cfa0d65f5ec1b92fddbe28e2a4b79bbd0fa8e651581", func := "loop.example/pub-g03133/laws.FnArgDdSd", spec := "fnArgDdSd", recurses := true, apart := false, narrowed := true }
def FnArgDdSdUptoSaid : Prop := fnArgDdSdUptoRow.holds Try.pinned (OpenSpec.upto fnArgDdSdSpec)

/-- 'laws.FnArgDnHalf', WHERE WHAT IT READS IS OF BULK AT MOST 1048576: true; the input reads as it did. -/
def fnArgDnHalfUptoRow : OpenClaim := { program := "ytplljlgomameeaa", sum := "0a8b2dcae8ec420f3c486cfa0d65f5ec1b92fddbe28e2a4b79bbd0fa8e651581", func := "loop.example/pub-g03133/laws.FnArgDnHalf", spec := "fnArgDnHalf", recurses := true, apart := false, narrowed := true }
def FnArgDnHalfUptoSaid : Prop := fnArgDnHalfUptoRow.holds Try.pinned (OpenSpec.upto fnArgDnHalfSpec)

/-- 'laws.FnArgEndian', WHERE WHAT IT READS IS OF BULK AT MOST 1048576: true; the input reads as it did. -/
def fnArgEndianUptoRow : OpenClaim := { program := "ytplljlgomameeaa", sum := "0a8b2dcae8ec420f3c486cfa0d65f5ec1b92fddbe28e2a4b79bbd0fa8e651581", func := "loop.example/pub-g03133/laws.FnArgEndian", spec := "fnArgEndian", recurses := true, apart := false, narrowed := true }
def FnArgEndianUptoSaid : Prop := fnArgEndianUptoRow.holds Try.pinned (OpenSpec.upto fnArgEndianSpec)

/-- 'laws.FnArgFPSCR', WHERE WHAT IT READS IS OF BULK AT MOST 1048576: true; the input reads as it did. -/
def fnArgFPSCRUptoRow : OpenClaim := { program := "ytplljlgomameeaa", sum := "0a8b2dcae8ec420f3c486cfa0d65f5ec1b92fddbe28e2a4b79bbd0fa8e651581", func := "loop.example/pub-g03133/laws.FnArgFPSCR", spec := "fnArgFPSCR", recurses := true, apart := false, narrowed := true }
def FnArgFPSCRUptoSaid : Prop := fnArgFPSCRUptoRow.holds Try.pinned (OpenSpec.upto fnArgFPSCRSpec)

/-- 'laws.FnArgFbits', WHERE WHAT IT READS IS OF BULK AT MOST 1048576: true; the input reads as it did. -/
def fnArgFbitsUptoRow : OpenClaim := { program := "ytplljlgomameeaa", sum := "0a8b2dcae8ec420f3c486cfa0d65f5ec1b92fddbe28e2a4b79bbd0fa8e651581", func := "loop.example/pub-g03133/laws.FnArgFbits", spec := "fnArgFbits", recurses := true, apart := false, narrowed := true }
def FnArgFbitsUptoSaid : Prop := fnArgFbitsUptoRow.holds Try.pinned (OpenSpec.upto fnArgFbitsSpec)

/-- 'laws.FnArgFp0', WHERE WHAT IT READS IS OF BULK AT MOST 1048576: true; the input reads as it did. -/
def fnArgFp0UptoRow : OpenClaim := { program := "ytplljlgomameeaa", sum := "0a8b2dcae8ec420f3c486cfa0d65f5ec1b92fddbe28e2a4b79bbd0fa8e651581", func := "loop.example/pub-g03133/laws.FnArgFp0", spec := "fnArgFp0", recurses := true, apart := false, narrowed := true }
def FnArgFp0UptoSaid : Prop := fnArgFp0UptoRow.holds Try.pinned (OpenSpec.upto fnArgFp0Spec)

/-- 'laws.FnArgImm12at84at0', WHERE WHAT IT READS IS OF BULK AT MOST 1048576: true; the input reads as it did. -/
def fnArgImm12at84at0UptoRow : OpenClaim := { program := "ytplljlgomameeaa", sum := "0a8b2dcae8ec420f3c486cfa0d65f5ec1b92fddbe28e2a4b79bbd0fa8e651581", func := "loop.example/pub-g03133/laws.FnArgImm12at84at0", spec := "fnArgImm12at84at0", recurses := true, apart := false, narrowed := true }
def FnArgImm12at84at0UptoSaid : Prop := fnArgImm12at84at0UptoRow.holds Try.pinned (OpenSpec.upto fnArgImm12at84at0Spec)

/-- 'laws.FnArgImm24', WHERE WHAT IT READS IS OF BULK AT MOST 1048576: true; the input reads as it did. -/
def fnArgImm24UptoRow : OpenClaim := { program := "ytplljlgomameeaa", sum := "0a8b2dcae8ec420f3c486cfa0d65f5ec1b92fddbe28e2a4b79bbd0fa8e651581", func := "loop.example/pub-g03133/laws.FnArgImm24", spec := "fnArgImm24", recurses := true, apart := false, narrowed := true }
def FnArgImm24UptoSaid : Prop := fnArgImm24UptoRow.holds Try.pinned (OpenSpec.upto fnArgImm24Spec)

/-- 'laws.FnArgImm4at1612at0', WHERE WHAT IT READS IS OF BULK AT MOST 1048576: true; the input reads as it did. -/
def fnArgImm4at1612at0UptoRow : OpenClaim := { program := "ytplljlgomameeaa", sum := "0a8b2dcae8ec420f3c486cfa0d65f5ec1b92fddbe28e2a4b79bbd0fa8e651581", func := "loop.example/pub-g03133/laws.FnArgImm4at1612at0", spec := "fnArgImm4at1612at0", recurses := true, apart := false, narrowed := true }
def FnArgImm4at1612at0UptoSaid : Prop := fnArgImm4at1612at0UptoRow.holds Try.pinned (OpenSpec.upto fnArgImm4at1612at0Spec)

/-- 'laws.FnArgImm5', WHERE WHAT IT READS IS OF BULK AT MOST 1048576: true; the input reads as it did. -/
def fnArgImm5UptoRow : OpenClaim := { program := "ytplljlgomameeaa", sum := "0a8b2dcae8ec420f3c486cfa0d65f5ec1b92fddbe28e2a4b79bbd0fa8e651581", func := "loop.example/pub-g03133/laws.FnArgImm5", spec := "fnArgImm5", recurses := true, apart := false, narrowed := true }
def FnArgImm5UptoSaid : Prop := fnArgImm5UptoRow.holds Try.pinned (OpenSpec.upto fnArgImm5Spec)

end Rows
end Go.Proofs.Ytplljlgomameeaa
