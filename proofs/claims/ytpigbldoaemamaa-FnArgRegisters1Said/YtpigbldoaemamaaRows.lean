/-
  No cell of these rows narrows 'for every input' (looked for: loops, veiled, ifaces, maps, wideKeys, modest, calm, conditions, laid).
  DERIVED. THE GIVEN ROWS OF THIS SEAT. 15 by the template 'for every input the law returns true; each argument reads behind the call as it read before'; 0 by the template 'total and deterministic' (their statements: YtpigbldoaemamaaTotals.lean).
  GIVEN WITH THE SEED: the statements are not yours to turn. If you find one false, say at which input.
  Laid BY PROGRAM, IN A SANDBOX (cutbox-rows.mjs): the forced cells as the released guide's own fill.sh prints them over the translation 4ade81ed2d6d52ad… (all of the seat's roots in one cut). By AI agents, Wed Nov 11 2026. No macro, syntax, notation, axiom, sorry.
-/
import Derived.Test.YtpigbldoaemamaaChecked
import GoSem.Claim
import GoSem.ClaimJoined
import GoSem.ClaimMapViews
import Derived.JoinedTies
import Derived.KernelRfl
namespace Go.Proofs.Ytpigbldoaemamaa
/- THE CELL 'sum', in the pinned program and in every row, IS THE sha256 OF THE DUMP (.gsa) THAT YtpigbldoaemamaaProg.lean LOADS. Nothing in Lean hashes anything: it is a label: what it is worth is what the hold of that sum in a sandbox is worth. -/
noncomputable def Try.pinned : Pinned := { name := "ytpigbldoaemamaa", sum := "4ade81ed2d6d52adc37093fc6da553acf270c350e1b685992caa7e0250901a68", checked := Try.checked }
namespace Rows
def none {H : Type} : Left H := { results := [], args := [] }

/-- 'laws.FnArgRegisters': WHATEVER THE INPUT: true; the input reads as it did. -/
def fnArgRegistersSpec : ChangeSpec := { name := "fnArgRegisters", fn := fun _ => fun
  | [d] => { results := [.lit (.bool true)], args := [d] }
  | _ => none }
def fnArgRegistersRow : OpenClaim := { program := "ytpigbldoaemamaa", sum := "4ade81ed2d6d52adc37093fc6da553acf270c350e1b685992caa7e0250901a68", func := "loop.example/pub-g03133/laws.FnArgRegisters", spec := "fnArgRegisters", recurses := true, apart := false }
def FnArgRegistersSaid : Prop := fnArgRegistersRow.holds Try.pinned (OpenSpec.ofChange fnArgRegistersSpec)

/-- ITS FALSE NEIGHBOUR: 'it returns false'. Refute it at one input. -/
def fnArgRegistersWrong : ChangeSpec := { name := "fnArgRegisters", fn := fun _ => fun
  | [d] => { results := [.lit (.bool false)], args := [d] }
  | _ => none }
def FnArgRegistersWrongFalsely : Prop := fnArgRegistersRow.holds Try.pinned (OpenSpec.ofChange fnArgRegistersWrong)

/-- 'laws.FnArgRegisters1': WHATEVER THE INPUT: true; the input reads as it did. -/
def fnArgRegisters1Spec : ChangeSpec := { name := "fnArgRegisters1", fn := fun _ => fun
  | [d] => { results := [.lit (.bool true)], args := [d] }
  | _ => none }
def fnArgRegisters1Row : OpenClaim := { program := "ytpigbldoaemamaa", sum := "4ade81ed2d6d52adc37093fc6da553acf270c350e1b685992caa7e0250901a68", func := "loop.example/pub-g03133/laws.FnArgRegisters1", spec := "fnArgRegisters1", recurses := true, apart := false }
def FnArgRegisters1Said : Prop := fnArgRegisters1Row.holds Try.pinned (OpenSpec.ofChange fnArgRegisters1Spec)

/-- ITS FALSE NEIGHBOUR: 'it returns false'. Refute it at one input. -/
def fnArgRegisters1Wrong : ChangeSpec := { name := "fnArgRegisters1", fn := fun _ => fun
  | [d] => { results := [.lit (.bool false)], args := [d] }
  | _ => none }
def FnArgRegisters1WrongFalsely : Prop := fnArgRegisters1Row.holds Try.pinned (OpenSpec.ofChange fnArgRegisters1Wrong)

/-- 'laws.FnArgRegisters2': WHATEVER THE INPUT: true; the input reads as it did. -/
def fnArgRegisters2Spec : ChangeSpec := { name := "fnArgRegisters2", fn := fun _ => fun
  | [d] => { results := [.lit (.bool true)], args := [d] }
  | _ => none }
def fnArgRegisters2Row : OpenClaim := { program := "ytpigbldoaemamaa", sum := "4ade81ed2d6d52adc37093fc6da553acf270c350e1b685992caa7e0250901a68", func := "loop.example/pub-g03133/laws.FnArgRegisters2", spec := "fnArgRegisters2", recurses := true, apart := false }
def FnArgRegisters2Said : Prop := fnArgRegisters2Row.holds Try.pinned (OpenSpec.ofChange fnArgRegisters2Spec)

/-- ITS FALSE NEIGHBOUR: 'it returns false'. Refute it at one input. -/
def fnArgRegisters2Wrong : ChangeSpec := { name := "fnArgRegisters2", fn := fun _ => fun
  | [d] => { results := [.lit (.bool false)], args := [d] }
  | _ => none }
def FnArgRegisters2WrongFalsely : Prop := fnArgRegisters2Row.holds Try.pinned (OpenSpec.ofChange fnArgRegisters2Wrong)

/-- 'laws.FnArgSP': WHATEVER THE INPUT: true; the input reads as it did. -/
def fnArgSPSpec : ChangeSpec := { name := "fnArgSP", fn := fun _ => fun
  | [d] => { results := [.lit (.bool true)], args := [d] }
  | _ => none }
def fnArgSPRow : OpenClaim := { program := "ytpigbldoaemamaa", sum := "4ade81ed2d6d52adc37093fc6da553acf270c350e1b685992caa7e0250901a68", func := "loop.example/pub-g03133/laws.FnArgSP", spec := "fnArgSP", recurses := true, apart := false }
def FnArgSPSaid : Prop := fnArgSPRow.holds Try.pinned (OpenSpec.ofChange fnArgSPSpec)

/-- ITS FALSE NEIGHBOUR: 'it returns false'. Refute it at one input. -/
def fnArgSPWrong : ChangeSpec := { name := "fnArgSP", fn := fun _ => fun
  | [d] => { results := [.lit (.bool false)], args := [d] }
  | _ => none }
def FnArgSPWrongFalsely : Prop := fnArgSPRow.holds Try.pinned (OpenSpec.ofChange fnArgSPWrong)

/-- 'laws.FnArgSatimm4': WHATEVER THE INPUT: true; the input reads as it did. -/
def fnArgSatimm4Spec : ChangeSpec := { name := "fnArgSatimm4", fn := fun _ => fun
  | [d] => { results := [.lit (.bool true)], args := [d] }
  | _ => none }
def fnArgSatimm4Row : OpenClaim := { program := "ytpigbldoaemamaa", sum := "4ade81ed2d6d52adc37093fc6da553acf270c350e1b685992caa7e0250901a68", func := "loop.example/pub-g03133/laws.FnArgSatimm4", spec := "fnArgSatimm4", recurses := true, apart := false }
def FnArgSatimm4Said : Prop := fnArgSatimm4Row.holds Try.pinned (OpenSpec.ofChange fnArgSatimm4Spec)

/-- ITS FALSE NEIGHBOUR: 'it returns false'. Refute it at one input. -/
def fnArgSatimm4Wrong : ChangeSpec := { name := "fnArgSatimm4", fn := fun _ => fun
  | [d] => { results := [.lit (.bool false)], args := [d] }
  | _ => none }
def FnArgSatimm4WrongFalsely : Prop := fnArgSatimm4Row.holds Try.pinned (OpenSpec.ofChange fnArgSatimm4Wrong)

/-- 'laws.FnArgSatimm4m1': WHATEVER THE INPUT: true; the input reads as it did. -/
def fnArgSatimm4m1Spec : ChangeSpec := { name := "fnArgSatimm4m1", fn := fun _ => fun
  | [d] => { results := [.lit (.bool true)], args := [d] }
  | _ => none }
def fnArgSatimm4m1Row : OpenClaim := { program := "ytpigbldoaemamaa", sum := "4ade81ed2d6d52adc37093fc6da553acf270c350e1b685992caa7e0250901a68", func := "loop.example/pub-g03133/laws.FnArgSatimm4m1", spec := "fnArgSatimm4m1", recurses := true, apart := false }
def FnArgSatimm4m1Said : Prop := fnArgSatimm4m1Row.holds Try.pinned (OpenSpec.ofChange fnArgSatimm4m1Spec)

/-- ITS FALSE NEIGHBOUR: 'it returns false'. Refute it at one input. -/
def fnArgSatimm4m1Wrong : ChangeSpec := { name := "fnArgSatimm4m1", fn := fun _ => fun
  | [d] => { results := [.lit (.bool false)], args := [d] }
  | _ => none }
def FnArgSatimm4m1WrongFalsely : Prop := fnArgSatimm4m1Row.holds Try.pinned (OpenSpec.ofChange fnArgSatimm4m1Wrong)

/-- 'laws.FnArgSatimm5': WHATEVER THE INPUT: true; the input reads as it did. -/
def fnArgSatimm5Spec : ChangeSpec := { name := "fnArgSatimm5", fn := fun _ => fun
  | [d] => { results := [.lit (.bool true)], args := [d] }
  | _ => none }
def fnArgSatimm5Row : OpenClaim := { program := "ytpigbldoaemamaa", sum := "4ade81ed2d6d52adc37093fc6da553acf270c350e1b685992caa7e0250901a68", func := "loop.example/pub-g03133/laws.FnArgSatimm5", spec := "fnArgSatimm5", recurses := true, apart := false }
def FnArgSatimm5Said : Prop := fnArgSatimm5Row.holds Try.pinned (OpenSpec.ofChange fnArgSatimm5Spec)

/-- ITS FALSE NEIGHBOUR: 'it returns false'. Refute it at one input. -/
def fnArgSatimm5Wrong : ChangeSpec := { name := "fnArgSatimm5", fn := fun _ => fun
  | [d] => { results := [.lit (.bool false)], args := [d] }
  | _ => none }
def FnArgSatimm5WrongFalsely : Prop := fnArgSatimm5Row.holds Try.pinned (OpenSpec.ofChange fnArgSatimm5Wrong)

/-- 'laws.FnArgSatimm5m1': WHATEVER THE INPUT: true; the input reads as it did. -/
def fnArgSatimm5m1Spec : ChangeSpec := { name := "fnArgSatimm5m1", fn := fun _ => fun
  | [d] => { results := [.lit (.bool true)], args := [d] }
  | _ => none }
def fnArgSatimm5m1Row : OpenClaim := { program := "ytpigbldoaemamaa", sum := "4ade81ed2d6d52adc37093fc6da553acf270c350e1b685992caa7e0250901a68", func := "loop.example/pub-g03133/laws.FnArgSatimm5m1", spec := "fnArgSatimm5m1", recurses := true, apart := false }
def FnArgSatimm5m1Said : Prop := fnArgSatimm5m1Row.holds Try.pinned (OpenSpec.ofChange fnArgSatimm5m1Spec)

/-- ITS FALSE NEIGHBOUR: 'it returns false'. Refute it at one input. -/
def fnArgSatimm5m1Wrong : ChangeSpec := { name := "fnArgSatimm5m1", fn := fun _ => fun
  | [d] => { results := [.lit (.bool false)], args := [d] }
  | _ => none }
def FnArgSatimm5m1WrongFalsely : Prop := fnArgSatimm5m1Row.holds Try.pinned (OpenSpec.ofChange fnArgSatimm5m1Wrong)

/-- 'laws.FnArgSd': WHATEVER THE INPUT: true; the input reads as it did. -/
def fnArgSdSpec : ChangeSpec := { name := "fnArgSd", fn := fun _ => fun
  | [d] => { results := [.lit (.bool true)], args := [d] }
  | _ => none }
def fnArgSdRow : OpenClaim := { program := "ytpigbldoaemamaa", sum := "4ade81ed2d6d52adc37093fc6da553acf270c350e1b685992caa7e0250901a68", func := "loop.example/pub-g03133/laws.FnArgSd", spec := "fnArgSd", recurses := true, apart := false }
def FnArgSdSaid : Prop := fnArgSdRow.holds Try.pinned (OpenSpec.ofChange fnArgSdSpec)

/-- ITS FALSE NEIGHBOUR: 'it returns false'. Refute it at one input. -/
def fnArgSdWrong : ChangeSpec := { name := "fnArgSd", fn := fun _ => fun
  | [d] => { results := [.lit (.bool false)], args := [d] }
  | _ => none }
def FnArgSdWrongFalsely : Prop := fnArgSdRow.holds Try.pinned (OpenSpec.ofChange fnArgSdWrong)

/-- 'laws.FnArgSdDd': WHATEVER THE INPUT: true; the input reads as it did. -/
def fnArgSdDdSpec : ChangeSpec := { name := "fnArgSdDd", fn := fun _ => fun
  | [d] => { results := [.lit (.bool true)], args := [d] }
  | _ => none }
def fnArgSdDdRow : OpenClaim := { program := "ytpigbldoaemamaa", sum := "4ade81ed2d6d52adc37093fc6da553acf270c350e1b685992caa7e0250901a68", func := "loop.example/pub-g03133/laws.FnArgSdDd", spec := "fnArgSdDd", recurses := true, apart := false }
def FnArgSdDdSaid : Prop := fnArgSdDdRow.holds Try.pinned (OpenSpec.ofChange fnArgSdDdSpec)

/-- ITS FALSE NEIGHBOUR: 'it returns false'. Refute it at one input. -/
def fnArgSdDdWrong : ChangeSpec := { name := "fnArgSdDd", fn := fun _ => fun
  | [d] => { results := [.lit (.bool false)], args := [d] }
  | _ => none }
def FnArgSdDdWrongFalsely : Prop := fnArgSdDdRow.holds Try.pinned (OpenSpec.ofChange fnArgSdDdWrong)

/-- 'laws.FnArgSm': WHATEVER THE INPUT: true; the input reads as it did. -/
def fnArgSmSpec : ChangeSpec := { name := "fnArgSm", fn := fun _ => fun
  | [d] => { results := [.lit (.bool true)], args := [d] }
  | _ => none }
def fnArgSmRow : OpenClaim := { program := "ytpigbldoaemamaa", sum := "4ade81ed2d6d52adc37093fc6da553acf270c350e1b685992caa7e0250901a68", func := "loop.example/pub-g03133/laws.FnArgSm", spec := "fnArgSm", recurses := true, apart := false }
def FnArgSmSaid : Prop := fnArgSmRow.holds Try.pinned (OpenSpec.ofChange fnArgSmSpec)

/-- ITS FALSE NEIGHBOUR: 'it returns false'. Refute it at one input. -/
def fnArgSmWrong : ChangeSpec := { name := "fnArgSm", fn := fun _ => fun
  | [d] => { results := [.lit (.bool false)], args := [d] }
  | _ => none }
def FnArgSmWrongFalsely : Prop := fnArgSmRow.holds Try.pinned (OpenSpec.ofChange fnArgSmWrong)

/-- 'laws.FnArgSmDm': WHATEVER THE INPUT: true; the input reads as it did. -/
def fnArgSmDmSpec : ChangeSpec := { name := "fnArgSmDm", fn := fun _ => fun
  | [d] => { results := [.lit (.bool true)], args := [d] }
  | _ => none }
def fnArgSmDmRow : OpenClaim := { program := "ytpigbldoaemamaa", sum := "4ade81ed2d6d52adc37093fc6da553acf270c350e1b685992caa7e0250901a68", func := "loop.example/pub-g03133/laws.FnArgSmDm", spec := "fnArgSmDm", recurses := true, apart := false }
def FnArgSmDmSaid : Prop := fnArgSmDmRow.holds Try.pinned (OpenSpec.ofChange fnArgSmDmSpec)

/-- ITS FALSE NEIGHBOUR: 'it returns false'. Refute it at one input. -/
def fnArgSmDmWrong : ChangeSpec := { name := "fnArgSmDm", fn := fun _ => fun
  | [d] => { results := [.lit (.bool false)], args := [d] }
  | _ => none }
def FnArgSmDmWrongFalsely : Prop := fnArgSmDmRow.holds Try.pinned (OpenSpec.ofChange fnArgSmDmWrong)

/-- 'laws.FnArgSn': WHATEVER THE INPUT: true; the input reads as it did. -/
def fnArgSnSpec : ChangeSpec := { name := "fnArgSn", fn := fun _ => fun
  | [d] => { results := [.lit (.bool true)], args := [d] }
  | _ => none }
def fnArgSnRow : OpenClaim := { program := "ytpigbldoaemamaa", sum := "4ade81ed2d6d52adc37093fc6da553acf270c350e1b685992caa7e0250901a68", func := "loop.example/pub-g03133/laws.FnArgSn", spec := "fnArgSn", recurses := true, apart := false }
def FnArgSnSaid : Prop := fnArgSnRow.holds Try.pinned (OpenSpec.ofChange fnArgSnSpec)

/-- ITS FALSE NEIGHBOUR: 'it returns false'. Refute it at one input. -/
def fnArgSnWrong : ChangeSpec := { name := "fnArgSn", fn := fun _ => fun
  | [d] => { results := [.lit (.bool false)], args := [d] }
  | _ => none }
def FnArgSnWrongFalsely : Prop := fnArgSnRow.holds Try.pinned (OpenSpec.ofChange fnArgSnWrong)

/-- 'laws.FnArgSnDn': WHATEVER THE INPUT: true; the input reads as it did. -/
def fnArgSnDnSpec : ChangeSpec := { name := "fnArgSnDn", fn := fun _ => fun
  | [d] => { results := [.lit (.bool true)], args := [d] }
  | _ => none }
def fnArgSnDnRow : OpenClaim := { program := "ytpigbldoaemamaa", sum := "4ade81ed2d6d52adc37093fc6da553acf270c350e1b685992caa7e0250901a68", func := "loop.example/pub-g03133/laws.FnArgSnDn", spec := "fnArgSnDn", recurses := true, apart := false }
def FnArgSnDnSaid : Prop := fnArgSnDnRow.holds Try.pinned (OpenSpec.ofChange fnArgSnDnSpec)

/-- ITS FALSE NEIGHBOUR: 'it returns false'. Refute it at one input. -/
def fnArgSnDnWrong : ChangeSpec := { name := "fnArgSnDn", fn := fun _ => fun
  | [d] => { results := [.lit (.bool false)], args := [d] }
  | _ => none }
def FnArgSnDnWrongFalsely : Prop := fnArgSnDnRow.holds Try.pinned (OpenSpec.ofChange fnArgSnDnWrong)

/-- 'laws.FnArgWidthm1': WHATEVER THE INPUT: true; the input reads as it did. -/
def fnArgWidthm1Spec : ChangeSpec := { name := "fnArgWidthm1", fn := fun _ => fun
  | [d] => { results := [.lit (.bool true)], args := [d] }
  | _ => none }
def fnArgWidthm1Row : OpenClaim := { program := "ytpigbldoaemamaa", sum := "4ade81ed2d6d52adc37093fc6da553acf270c350e1b685992caa7e0250901a68", func := "loop.example/pub-g03133/laws.FnArgWidthm1", spec := "fnArgWidthm1", recurses := true, apart := false }
def FnArgWidthm1Said : Prop := fnArgWidthm1Row.holds Try.pinned (OpenSpec.ofChange fnArgWidthm1Spec)

/-- ITS FALSE NEIGHBOUR: 'it returns false'. Refute it at one input. -/
def fnArgWidthm1Wrong : ChangeSpec := { name := "fnArgWidthm1", fn := fun _ => fun
  | [d] => { results := [.lit (.bool false)], args := [d] }
  | _ => none }
def FnArgWidthm1WrongFalsely : Prop := fnArgWidthm1Row.holds Try.pinned (OpenSpec.ofChange fnArgWidthm1Wrong)

/- THE SECOND FORM. 'bulk': how many values and letters a reading holds, each counted each time it is reached (what is shared counts as often as it is met; a slice's spare places count too). A statement '..UptoSaid' is the law's where the arguments, and the package variables that the reading takes, are together of bulk at most 1048576: NARROWER than '..Said'. Prove '..Said' where nothing that the law and all that it calls make is longer than what came in: it says more and counts as full. Else prove '..UptoSaid'. A law counts once. -/
mutual
def uptoBulk {H : Type} : DataW H → Nat
  | .lit (.string bytes) => bytes.length + 1
  | .lit _ => 1
  | .nil => 1
  | .ptr d => uptoBulk d + 1
  | .slice elems spare => uptoBulkAll elems + uptoBulkAll spare + 1
  | .agg parts => uptoBulkAll parts + 1
  | .iface _ d => uptoBulk d + 1
  | .map entries => uptoBulkEntries entries + 1
  | .held _ => 1
def uptoBulkAll {H : Type} : List (DataW H) → Nat
  | [] => 0
  | d :: r => uptoBulk d + uptoBulkAll r
def uptoBulkEntries {H : Type} : List (Lit × DataW H) → Nat
  | [] => 0
  | x :: r => uptoBulkEntry x + uptoBulkEntries r
def uptoBulkEntry {H : Type} : Lit × DataW H → Nat
  | (.string bytes, d) => bytes.length + uptoBulk d + 1
  | (_, d) => uptoBulk d + 1
 end
def uptoSmall : (H : Type) → List (DataW H) → Bool := fun _ ds => decide (uptoBulkAll ds ≤ 1048576)
def OpenSpec.upto (s : _root_.Go.ChangeSpec) : _root_.Go.OpenSpec := { _root_.Go.OpenSpec.ofChange s with cond := some uptoSmall }

/-- 'laws.FnArgRegisters', WHERE WHAT IT READS IS OF BULK AT MOST 1048576: true; the input reads as it did. -/
def fnArgRegistersUptoRow : OpenClaim := { program := "ytpigbldoaemamaa", sum := "4ade81ed2d6d52adc37093fc6da553acf270c350e1b685992caa7e0250901a68", func := "loop.example/pub-g03133/laws.FnArgRegisters", spec := "fnArgRegisters", recurses := true, apart := false, narrowed := true }
def FnArgRegistersUptoSaid : Prop := fnArgRegistersUptoRow.holds Try.pinned (OpenSpec.upto fnArgRegistersSpec)

/-- 'laws.FnArgRegisters1', WHERE WHAT IT READS IS OF BULK AT MOST 1048576: true; the input reads as it did. -/
def fnArgRegisters1UptoRow : OpenClaim := { program := "ytpigbldoaemamaa", sum := "4ade81ed2d6d52adc37093fc6da553acf270c350e1b685992caa7e0250901a68", func := "loop.example/pub-g03133/laws.FnArgRegisters1", spec := "fnArgRegisters1", recurses := true, apart := false, narrowed := true }
def FnArgRegisters1UptoSaid : Prop := fnArgRegisters1UptoRow.holds Try.pinned (OpenSpec.upto fnArgRegisters1Spec)

/-- 'laws.FnArgRegisters2', WHERE WHAT IT READS IS OF BULK AT MOST 1048576: true; the input reads as it did. -/
def fnArgRegisters2UptoRow : OpenClaim := { program := "ytpigbldoaemamaa", sum := "4ade81ed2d6d52adc37093fc6da553acf270c350e1b685992caa7e0250901a68", func := "loop.example/pub-g03133/laws.FnArgRegisters2", spec := "fnArgRegisters2", recurses := true, apart := false, narrowed := true }
def FnArgRegisters2UptoSaid : Prop := fnArgRegisters2UptoRow.holds Try.pinned (OpenSpec.upto fnArgRegisters2Spec)

/-- 'laws.FnArgSP', WHERE WHAT IT READS IS OF BULK AT MOST 1048576: true; the input reads as it did. -/
def fnArgSPUptoRow : OpenClaim := { program := "ytpigbldoaemamaa", sum := "4ade81ed2d6d52adc37093fc6da553acf270c350e1b685992caa7e0250901a68", func := "loop.example/pub-g03133/laws.FnArgSP", spec := "fnArgSP", recurses := true, apart := false, narrowed := true }
def FnArgSPUptoSaid : Prop := fnArgSPUptoRow.holds Try.pinned (OpenSpec.upto fnArgSPSpec)

/-- 'laws.FnArgSatimm4', WHERE WHAT IT READS IS OF BULK AT MOST 1048576: true; the input reads as it did. -/
def fnArgSatimm4UptoRow : OpenClaim := { program := "ytpigbldoaemamaa", sum := "4ade81ed2d6d52adc37093fc6da553acf270c350e1b685992caa7e0250901a68", func := "loop.example/pub-g03133/laws.FnArgSatimm4", spec := "fnArgSatimm4", recurses := true, apart := false, narrowed := true }
def FnArgSatimm4UptoSaid : Prop := fnArgSatimm4UptoRow.holds Try.pinned (OpenSpec.upto fnArgSatimm4Spec)

/-- 'laws.FnArgSatimm4m1', WHERE WHAT IT READS IS OF BULK AT MOST 1048576: true; the input reads as it did. -/
def fnArgSatimm4m1UptoRow : OpenClaim := { program := "ytpigbldoaemamaa", sum := "4ade81ed2d6d52adc37093fc6da553acf270c350e1b685992caa7e0250901a68", func := "loop.example/pub-g03133/laws.FnArgSatimm4m1", spec := "fnArgSatimm4m1", recurses := true, apart := false, narrowed := true }
def FnArgSatimm4m1UptoSaid : Prop := fnArgSatimm4m1UptoRow.holds Try.pinned (OpenSpec.upto fnArgSatimm4m1Spec)

/-- 'laws.FnArgSatimm5', WHERE WHAT IT READS IS OF BULK AT MOST 1048576: true; the input reads as it did. -/
def fnArgSatimm5UptoRow : OpenClaim := { program := "ytpigbldoaemamaa", sum := "4ade81ed2d6d52adc37093fc6da553acf270c350e1b685992caa7e0250901a68", func := "loop.example/pub-g03133/laws.FnArgSatimm5", spec := "fnArgSatimm5", recurses := true, apart := false, narrowed := true }
def FnArgSatimm5UptoSaid : Prop := fnArgSatimm5UptoRow.holds Try.pinned (OpenSpec.upto fnArgSatimm5Spec)

/-- 'laws.FnArgSatimm5m1', WHERE WHAT IT READS IS OF BULK AT MOST 1048576: true; the input reads as it did. -/
def fnArgSatimm5m1UptoRow : OpenClaim := { program := "ytpigbldoaemamaa", sum := "4ade81ed2d6d52adc37093fc6da553acf270c350e1b685992caa7e0250901a68", func := "loop.example/pub-g03133/laws.FnArgSatimm5m1", spec := "fnArgSatimm5m1", recurses := true, apart := false, narrowed := true }
def FnArgSatimm5m1UptoSaid : Prop := fnArgSatimm5m1UptoRow.holds Try.pinned (OpenSpec.upto fnArgSatimm5m1Spec)

/-- 'laws.FnArgSd', WHERE WHAT IT READS IS OF BULK AT MOST 1048576: true; the input reads as it did. -/
def fnArgSdUptoRow : OpenClaim := { program := "ytpigbldoaemamaa", sum := "4ade81ed2d6d52adc37093fc6da553acf270c350e1b685992caa7e0250901a68", func := "loop.example/pub-g03133/laws.FnArgSd", spec := "fnArgSd", recurses := true, apart := false, narrowed := true }
def FnArgSdUptoSaid : Prop := fnArgSdUptoRow.holds Try.pinned (OpenSpec.upto fnArgSdSpec)

/-- 'laws.FnArgSdDd', WHERE WHAT IT READS IS OF BULK AT MOST 1048576: true; the input reads as it did. -/
def fnArgSdDdUptoRow : OpenClaim := { program := "ytpigbldoaemamaa", sum := "4ade81ed2d6d52adc37093fc6da553acf270c350e1b685992caa7e0250901a68", func := "loop.example/pub-g03133/laws.FnArgSdDd", spec := "fnArgSdDd", recurses := true, apart := false, narrowed := true }
def FnArgSdDdUptoSaid : Prop := fnArgSdDdUptoRow.holds Try.pinned (OpenSpec.upto fnArgSdDdSpec)

/-- 'laws.FnArgSm', WHERE WHAT IT READS IS OF BULK AT MOST 1048576: true; the input reads as it did. -/
def fnArgSmUptoRow : OpenClaim := { program := "ytpigbldoaemamaa", sum := "4ade81ed2d6d52adc37093fc6da553acf270c350e1b685992caa7e0250901a68", func := "loop.example/pub-g03133/laws.FnArgSm", spec := "fnArgSm", recurses := true, apart := false, narrowed := true }
def FnArgSmUptoSaid : Prop := fnArgSmUptoRow.holds Try.pinned (OpenSpec.upto fnArgSmSpec)

/-- 'laws.FnArgSmDm', WHERE WHAT IT READS IS OF BULK AT MOST 1048576: true; the input reads as it did. -/
def fnArgSmDmUptoRow : OpenClaim := { program := "ytpigbldoaemamaa", sum := "4ade81ed2d6d52adc37093fc6da553acf270c350e1b685992caa7e0250901a68", func := "loop.example/pub-g03133/laws.FnArgSmDm", spec := "fnArgSmDm", recurses := true, apart := false, narrowed := true }
def FnArgSmDmUptoSaid : Prop := fnArgSmDmUptoRow.holds Try.pinned (OpenSpec.upto fnArgSmDmSpec)

/-- 'laws.FnArgSn', WHERE WHAT IT READS IS OF BULK AT MOST 1048576: true; the input reads as it did. -/
def fnArgSnUptoRow : OpenClaim := { program := "ytpigbldoaemamaa", sum := "4ade81ed2d6d52adc37093fc6da553acf270c350e1b685992caa7e0250901a68", func := "loop.example/pub-g03133/laws.FnArgSn", spec := "fnArgSn", recurses := true, apart := false, narrowed := true }
def FnArgSnUptoSaid : Prop := fnArgSnUptoRow.holds Try.pinned (OpenSpec.upto fnArgSnSpec)

/-- 'laws.FnArgSnDn', WHERE WHAT IT READS IS OF BULK AT MOST 1048576: true; the input reads as it did. -/
def fnArgSnDnUptoRow : OpenClaim := { program := "ytpigbldoaemamaa", sum := "4ade81ed2d6d52adc37093fc6da553acf270c350e1b685992caa7e0250901a68", func := "loop.example/pub-g03133/laws.FnArgSnDn", spec := "fnArgSnDn", recurses := true, apart := false, narrowed := true }
def FnArgSnDnUptoSaid : Prop := fnArgSnDnUptoRow.holds Try.pinned (OpenSpec.upto fnArgSnDnSpec)

/-- 'laws.FnArgWidthm1', WHERE WHAT IT READS IS OF BULK AT MOST 1048576: true; the input reads as it did. -/
def fnArgWidthm1UptoRow : OpenClaim := { program := "ytpigbldoaemamaa", sum := "4ade81ed2d6d52adc37093fc6da553acf270c350e1b685992caa7e0250901a68", func := "loop.example/pub-g03133/laws.FnArgWidthm1", spec := "fnArgWidthm1", recurses := true, apart := false, narrowed := true }
def FnArgWidthm1UptoSaid : Prop := fnArgWidthm1UptoRow.holds Try.pinned (OpenSpec.upto fnArgWidthm1Spec)

end Rows
end Go.Proofs.Ytpigbldoaemamaa
