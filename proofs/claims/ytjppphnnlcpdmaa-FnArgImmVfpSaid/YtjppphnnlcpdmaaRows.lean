/-
  No cell of these rows narrows 'for every input' (looked for: loops, veiled, ifaces, maps, wideKeys, modest, calm, conditions, laid).
  DERIVED. THE GIVEN ROWS OF THIS SEAT. 12 by the template 'for every input the law returns true; each argument reads behind the call as it read before'; 0 by the template 'total and deterministic' (their statements: YtjppphnnlcpdmaaTotals.lean).
  GIVEN WITH THE SEED: the statements are not yours to turn. If you find one false, say at which input.
  Laid BY PROGRAM, IN A SANDBOX (cutbox-rows.mjs): the forced cells as the released guide's own fill.sh prints them over the translation ac63ae987b8eeb18… (all of the seat's roots in one cut). By AI agents, Wed Nov 11 2026. No macro, syntax, notation, axiom, sorry.
-/
import Derived.Test.YtjppphnnlcpdmaaChecked
import GoSem.Claim
import GoSem.ClaimJoined
import GoSem.ClaimMapViews
import Derived.JoinedTies
import Derived.KernelRfl
namespace Go.Proofs.Ytjppphnnlcpdmaa
/- THE CELL 'sum', in the pinned program and in every row, IS THE sha256 OF THE DUMP (.gsa) THAT YtjppphnnlcpdmaaProg.lean LOADS. Nothing in Lean hashes anything: it is a label: what it is worth is what the hold of that sum in a sandbox is worth. -/
noncomputable def Try.pinned : Pinned := { name := "ytjppphnnlcpdmaa", sum := "ac63ae987b8eeb189632db59bb2e7159f4ac2d48d6d63b3fdc17d0ca2ac1d8eb", checked := Try.checked }
namespace Rows
def none {H : Type} : Left H := { results := [], args := [] }

/-- 'laws.FnArgImm532': WHATEVER THE INPUT: true; the input reads as it did. -/
def fnArgImm532Spec : ChangeSpec := { name := "fnArgImm532", fn := fun _ => fun
  | [d] => { results := [.lit (.bool true)], args := [d] }
  | _ => none }
def fnArgImm532Row : OpenClaim := { program := "ytjppphnnlcpdmaa", sum := "ac63ae987b8eeb189632db59bb2e7159f4ac2d48d6d63b3fdc17d0ca2ac1d8eb", func := "loop.example/pub-g03133/laws.FnArgImm532", spec := "fnArgImm532", recurses := true, apart := false }
def FnArgImm532Said : Prop := fnArgImm532Row.holds Try.pinned (OpenSpec.ofChange fnArgImm532Spec)

/-- ITS FALSE NEIGHBOUR: 'it returns false'. Refute it at one input. -/
def fnArgImm532Wrong : ChangeSpec := { name := "fnArgImm532", fn := fun _ => fun
  | [d] => { results := [.lit (.bool false)], args := [d] }
  | _ => none }
def FnArgImm532WrongFalsely : Prop := fnArgImm532Row.holds Try.pinned (OpenSpec.ofChange fnArgImm532Wrong)

/-- 'laws.FnArgImm5Nz': WHATEVER THE INPUT: true; the input reads as it did. -/
def fnArgImm5NzSpec : ChangeSpec := { name := "fnArgImm5Nz", fn := fun _ => fun
  | [d] => { results := [.lit (.bool true)], args := [d] }
  | _ => none }
def fnArgImm5NzRow : OpenClaim := { program := "ytjppphnnlcpdmaa", sum := "ac63ae987b8eeb189632db59bb2e7159f4ac2d48d6d63b3fdc17d0ca2ac1d8eb", func := "loop.example/pub-g03133/laws.FnArgImm5Nz", spec := "fnArgImm5Nz", recurses := true, apart := false }
def FnArgImm5NzSaid : Prop := fnArgImm5NzRow.holds Try.pinned (OpenSpec.ofChange fnArgImm5NzSpec)

/-- ITS FALSE NEIGHBOUR: 'it returns false'. Refute it at one input. -/
def fnArgImm5NzWrong : ChangeSpec := { name := "fnArgImm5Nz", fn := fun _ => fun
  | [d] => { results := [.lit (.bool false)], args := [d] }
  | _ => none }
def FnArgImm5NzWrongFalsely : Prop := fnArgImm5NzRow.holds Try.pinned (OpenSpec.ofChange fnArgImm5NzWrong)

/-- 'laws.FnArgImmVfp': WHATEVER THE INPUT: true; the input reads as it did. -/
def fnArgImmVfpSpec : ChangeSpec := { name := "fnArgImmVfp", fn := fun _ => fun
  | [d1, d2] => { results := [.lit (.bool true)], args := [d1, d2] }
  | _ => none }
def fnArgImmVfpRow : OpenClaim := { program := "ytjppphnnlcpdmaa", sum := "ac63ae987b8eeb189632db59bb2e7159f4ac2d48d6d63b3fdc17d0ca2ac1d8eb", func := "loop.example/pub-g03133/laws.FnArgImmVfp", spec := "fnArgImmVfp", recurses := true, apart := false }
def FnArgImmVfpSaid : Prop := fnArgImmVfpRow.holds Try.pinned (OpenSpec.ofChange fnArgImmVfpSpec)

/-- ITS FALSE NEIGHBOUR: 'it returns false'. Refute it at one input. -/
def fnArgImmVfpWrong : ChangeSpec := { name := "fnArgImmVfp", fn := fun _ => fun
  | [d1, d2] => { results := [.lit (.bool false)], args := [d1, d2] }
  | _ => none }
def FnArgImmVfpWrongFalsely : Prop := fnArgImmVfpRow.holds Try.pinned (OpenSpec.ofChange fnArgImmVfpWrong)

/-- 'laws.FnArgLabel24': WHATEVER THE INPUT: true; the input reads as it did. -/
def fnArgLabel24Spec : ChangeSpec := { name := "fnArgLabel24", fn := fun _ => fun
  | [d] => { results := [.lit (.bool true)], args := [d] }
  | _ => none }
def fnArgLabel24Row : OpenClaim := { program := "ytjppphnnlcpdmaa", sum := "ac63ae987b8eeb189632db59bb2e7159f4ac2d48d6d63b3fdc17d0ca2ac1d8eb", func := "loop.example/pub-g03133/laws.FnArgLabel24", spec := "fnArgLabel24", recurses := true, apart := false }
def FnArgLabel24Said : Prop := fnArgLabel24Row.holds Try.pinned (OpenSpec.ofChange fnArgLabel24Spec)

/-- ITS FALSE NEIGHBOUR: 'it returns false'. Refute it at one input. -/
def fnArgLabel24Wrong : ChangeSpec := { name := "fnArgLabel24", fn := fun _ => fun
  | [d] => { results := [.lit (.bool false)], args := [d] }
  | _ => none }
def FnArgLabel24WrongFalsely : Prop := fnArgLabel24Row.holds Try.pinned (OpenSpec.ofChange fnArgLabel24Wrong)

/-- 'laws.FnArgLabel24H': WHATEVER THE INPUT: true; the input reads as it did. -/
def fnArgLabel24HSpec : ChangeSpec := { name := "fnArgLabel24H", fn := fun _ => fun
  | [d] => { results := [.lit (.bool true)], args := [d] }
  | _ => none }
def fnArgLabel24HRow : OpenClaim := { program := "ytjppphnnlcpdmaa", sum := "ac63ae987b8eeb189632db59bb2e7159f4ac2d48d6d63b3fdc17d0ca2ac1d8eb", func := "loop.example/pub-g03133/laws.FnArgLabel24H", spec := "fnArgLabel24H", recurses := true, apart := false }
def FnArgLabel24HSaid : Prop := fnArgLabel24HRow.holds Try.pinned (OpenSpec.ofChange fnArgLabel24HSpec)

/-- ITS FALSE NEIGHBOUR: 'it returns false'. Refute it at one input. -/
def fnArgLabel24HWrong : ChangeSpec := { name := "fnArgLabel24H", fn := fun _ => fun
  | [d] => { results := [.lit (.bool false)], args := [d] }
  | _ => none }
def FnArgLabel24HWrongFalsely : Prop := fnArgLabel24HRow.holds Try.pinned (OpenSpec.ofChange fnArgLabel24HWrong)

/-- 'laws.FnArgLabelM12': WHATEVER THE INPUT: true; the input reads as it did. -/
def fnArgLabelM12Spec : ChangeSpec := { name := "fnArgLabelM12", fn := fun _ => fun
  | [d] => { results := [.lit (.bool true)], args := [d] }
  | _ => none }
def fnArgLabelM12Row : OpenClaim := { program := "ytjppphnnlcpdmaa", sum := "ac63ae987b8eeb189632db59bb2e7159f4ac2d48d6d63b3fdc17d0ca2ac1d8eb", func := "loop.example/pub-g03133/laws.FnArgLabelM12", spec := "fnArgLabelM12", recurses := true, apart := false }
def FnArgLabelM12Said : Prop := fnArgLabelM12Row.holds Try.pinned (OpenSpec.ofChange fnArgLabelM12Spec)

/-- ITS FALSE NEIGHBOUR: 'it returns false'. Refute it at one input. -/
def fnArgLabelM12Wrong : ChangeSpec := { name := "fnArgLabelM12", fn := fun _ => fun
  | [d] => { results := [.lit (.bool false)], args := [d] }
  | _ => none }
def FnArgLabelM12WrongFalsely : Prop := fnArgLabelM12Row.holds Try.pinned (OpenSpec.ofChange fnArgLabelM12Wrong)

/-- 'laws.FnArgLabelP12': WHATEVER THE INPUT: true; the input reads as it did. -/
def fnArgLabelP12Spec : ChangeSpec := { name := "fnArgLabelP12", fn := fun _ => fun
  | [d] => { results := [.lit (.bool true)], args := [d] }
  | _ => none }
def fnArgLabelP12Row : OpenClaim := { program := "ytjppphnnlcpdmaa", sum := "ac63ae987b8eeb189632db59bb2e7159f4ac2d48d6d63b3fdc17d0ca2ac1d8eb", func := "loop.example/pub-g03133/laws.FnArgLabelP12", spec := "fnArgLabelP12", recurses := true, apart := false }
def FnArgLabelP12Said : Prop := fnArgLabelP12Row.holds Try.pinned (OpenSpec.ofChange fnArgLabelP12Spec)

/-- ITS FALSE NEIGHBOUR: 'it returns false'. Refute it at one input. -/
def fnArgLabelP12Wrong : ChangeSpec := { name := "fnArgLabelP12", fn := fun _ => fun
  | [d] => { results := [.lit (.bool false)], args := [d] }
  | _ => none }
def FnArgLabelP12WrongFalsely : Prop := fnArgLabelP12Row.holds Try.pinned (OpenSpec.ofChange fnArgLabelP12Wrong)

/-- 'laws.FnArgLabelPm12': WHATEVER THE INPUT: true; the input reads as it did. -/
def fnArgLabelPm12Spec : ChangeSpec := { name := "fnArgLabelPm12", fn := fun _ => fun
  | [d] => { results := [.lit (.bool true)], args := [d] }
  | _ => none }
def fnArgLabelPm12Row : OpenClaim := { program := "ytjppphnnlcpdmaa", sum := "ac63ae987b8eeb189632db59bb2e7159f4ac2d48d6d63b3fdc17d0ca2ac1d8eb", func := "loop.example/pub-g03133/laws.FnArgLabelPm12", spec := "fnArgLabelPm12", recurses := true, apart := false }
def FnArgLabelPm12Said : Prop := fnArgLabelPm12Row.holds Try.pinned (OpenSpec.ofChange fnArgLabelPm12Spec)

/-- ITS FALSE NEIGHBOUR: 'it returns false'. Refute it at one input. -/
def fnArgLabelPm12Wrong : ChangeSpec := { name := "fnArgLabelPm12", fn := fun _ => fun
  | [d] => { results := [.lit (.bool false)], args := [d] }
  | _ => none }
def FnArgLabelPm12WrongFalsely : Prop := fnArgLabelPm12Row.holds Try.pinned (OpenSpec.ofChange fnArgLabelPm12Wrong)

/-- 'laws.FnArgLabelPm44': WHATEVER THE INPUT: true; the input reads as it did. -/
def fnArgLabelPm44Spec : ChangeSpec := { name := "fnArgLabelPm44", fn := fun _ => fun
  | [d] => { results := [.lit (.bool true)], args := [d] }
  | _ => none }
def fnArgLabelPm44Row : OpenClaim := { program := "ytjppphnnlcpdmaa", sum := "ac63ae987b8eeb189632db59bb2e7159f4ac2d48d6d63b3fdc17d0ca2ac1d8eb", func := "loop.example/pub-g03133/laws.FnArgLabelPm44", spec := "fnArgLabelPm44", recurses := true, apart := false }
def FnArgLabelPm44Said : Prop := fnArgLabelPm44Row.holds Try.pinned (OpenSpec.ofChange fnArgLabelPm44Spec)

/-- ITS FALSE NEIGHBOUR: 'it returns false'. Refute it at one input. -/
def fnArgLabelPm44Wrong : ChangeSpec := { name := "fnArgLabelPm44", fn := fun _ => fun
  | [d] => { results := [.lit (.bool false)], args := [d] }
  | _ => none }
def FnArgLabelPm44WrongFalsely : Prop := fnArgLabelPm44Row.holds Try.pinned (OpenSpec.ofChange fnArgLabelPm44Wrong)

/-- 'laws.FnArgLsbWidth': WHATEVER THE INPUT: true; the input reads as it did. -/
def fnArgLsbWidthSpec : ChangeSpec := { name := "fnArgLsbWidth", fn := fun _ => fun
  | [d] => { results := [.lit (.bool true)], args := [d] }
  | _ => none }
def fnArgLsbWidthRow : OpenClaim := { program := "ytjppphnnlcpdmaa", sum := "ac63ae987b8eeb189632db59bb2e7159f4ac2d48d6d63b3fdc17d0ca2ac1d8eb", func := "loop.example/pub-g03133/laws.FnArgLsbWidth", spec := "fnArgLsbWidth", recurses := true, apart := false }
def FnArgLsbWidthSaid : Prop := fnArgLsbWidthRow.holds Try.pinned (OpenSpec.ofChange fnArgLsbWidthSpec)

/-- ITS FALSE NEIGHBOUR: 'it returns false'. Refute it at one input. -/
def fnArgLsbWidthWrong : ChangeSpec := { name := "fnArgLsbWidth", fn := fun _ => fun
  | [d] => { results := [.lit (.bool false)], args := [d] }
  | _ => none }
def FnArgLsbWidthWrongFalsely : Prop := fnArgLsbWidthRow.holds Try.pinned (OpenSpec.ofChange fnArgLsbWidthWrong)

/-- 'laws.FnArgOption': WHATEVER THE INPUT: true; the input reads as it did. -/
def fnArgOptionSpec : ChangeSpec := { name := "fnArgOption", fn := fun _ => fun
  | [d] => { results := [.lit (.bool true)], args := [d] }
  | _ => none }
def fnArgOptionRow : OpenClaim := { program := "ytjppphnnlcpdmaa", sum := "ac63ae987b8eeb189632db59bb2e7159f4ac2d48d6d63b3fdc17d0ca2ac1d8eb", func := "loop.example/pub-g03133/laws.FnArgOption", spec := "fnArgOption", recurses := true, apart := false }
def FnArgOptionSaid : Prop := fnArgOptionRow.holds Try.pinned (OpenSpec.ofChange fnArgOptionSpec)

/-- ITS FALSE NEIGHBOUR: 'it returns false'. Refute it at one input. -/
def fnArgOptionWrong : ChangeSpec := { name := "fnArgOption", fn := fun _ => fun
  | [d] => { results := [.lit (.bool false)], args := [d] }
  | _ => none }
def FnArgOptionWrongFalsely : Prop := fnArgOptionRow.holds Try.pinned (OpenSpec.ofChange fnArgOptionWrong)

/-- 'laws.FnArgR0': WHATEVER THE INPUT: true; the input reads as it did. -/
def fnArgR0Spec : ChangeSpec := { name := "fnArgR0", fn := fun _ => fun
  | [d] => { results := [.lit (.bool true)], args := [d] }
  | _ => none }
def fnArgR0Row : OpenClaim := { program := "ytjppphnnlcpdmaa", sum := "ac63ae987b8eeb189632db59bb2e7159f4ac2d48d6d63b3fdc17d0ca2ac1d8eb", func := "loop.example/pub-g03133/laws.FnArgR0", spec := "fnArgR0", recurses := true, apart := false }
def FnArgR0Said : Prop := fnArgR0Row.holds Try.pinned (OpenSpec.ofChange fnArgR0Spec)

/-- ITS FALSE NEIGHBOUR: 'it returns false'. Refute it at one input. -/
def fnArgR0Wrong : ChangeSpec := { name := "fnArgR0", fn := fun _ => fun
  | [d] => { results := [.lit (.bool false)], args := [d] }
  | _ => none }
def FnArgR0WrongFalsely : Prop := fnArgR0Row.holds Try.pinned (OpenSpec.ofChange fnArgR0Wrong)

/- THE SECOND FORM. 'bulk': how many values and letters a reading holds, each counted each time it is reached (what is shared counts as often as it is met; a slice's spare places count too). A statement '..UptoSaid' is the law's where the arguments, and the package variables that the reading takes, are together of bulk at most 1048576: NARROWER than '..Said'. Prove '..Said' where nothing that the law and all that it calls make is longer than what came in: it says more and counts as full. Else prove '..UptoSaid'. A law counts once. -/
mutual
def uptoBulk {H : Type} : DataW H → Nat
  | .lit (.string bytes) => bytes.length + 1
  | .lit _ => 1
  | .nil => 1
  | .ptr d => uptoBulk d + 1
  | .slice elems spare => uptoBulkAll elems + uptoBulkAll spare + 1
  | .agg parts => uptoBulkAll parts + 1
  | .iface _ d => uptoBulk d + 1
  | .map entries => uptoBulkEntries entries + 1
  | .held _ => 1
def uptoBulkAll {H : Type} : List (DataW H) → Nat
  | [] => 0
  | d :: r => uptoBulk d + uptoBulkAll r
def uptoBulkEntries {H : Type} : List (Lit × DataW H) → Nat
  | [] => 0
  | x :: r => uptoBulkEntry x + uptoBulkEntries r
def uptoBulkEntry {H : Type} : Lit × DataW H → Nat
  | (.string bytes, d) => bytes.length + uptoBulk d + 1
  | (_, d) => uptoBulk d + 1
 end
def uptoSmall : (H : Type) → List (DataW H) → Bool := fun _ ds => decide (uptoBulkAll ds ≤ 1048576)
def OpenSpec.upto (s : _root_.Go.ChangeSpec) : _root_.Go.OpenSpec := { _root_.Go.OpenSpec.ofChange s with cond := some uptoSmall }

/-- 'laws.FnArgImm532', WHERE WHAT IT READS IS OF BULK AT MOST 1048576: true; the input reads as it did. -/
def fnArgImm532UptoRow : OpenClaim := { program := "ytjppphnnlcpdmaa", sum := "ac63ae987b8eeb189632db59bb2e7159f4ac2d48d6d63b3fdc17d0ca2ac1d8eb", func := "loop.example/pub-g03133/laws.FnArgImm532", spec := "fnArgImm532", recurses := true, apart := false, narrowed := true }
def FnArgImm532UptoSaid : Prop := fnArgImm532UptoRow.holds Try.pinned (OpenSpec.upto fnArgImm532Spec)

/-- 'laws.FnArgImm5Nz', WHERE WHAT IT READS IS OF BULK AT MOST 1048576: true; the input reads as it did. -/
def fnArgImm5NzUptoRow : OpenClaim := { program := "ytjppphnnlcpdmaa", sum := "ac63ae987b8eeb189632db59bb2e7159f4ac2d48d6d63b3fdc17d0ca2ac1d8eb", func := "loop.example/pub-g03133/laws.FnArgImm5Nz", spec := "fnArgImm5Nz", recurses := true, apart := false, narrowed := true }
def FnArgImm5NzUptoSaid : Prop := fnArgImm5NzUptoRow.holds Try.pinned (OpenSpec.upto fnArgImm5NzSpec)

/-- 'laws.FnArgImmVfp', WHERE WHAT IT READS IS OF BULK AT MOST 1048576: true; the input reads as it did. -/
def fnArgImmVfpUptoRow : OpenClaim := { program := "ytjppphnnlcpdmaa", sum := "ac63ae987b8eeb189632db59bb2e7159f4ac2d48d6d63b3fdc17d0ca2ac1d8eb", func := "loop.example/pub-g03133/laws.FnArgImmVfp", spec := "fnArgImmVfp", recurses := true, apart := false, narrowed := true }
def FnArgImmVfpUptoSaid : Prop := fnArgImmVfpUptoRow.holds Try.pinned (OpenSpec.upto fnArgImmVfpSpec)

/-- 'laws.FnArgLabel24', WHERE WHAT IT READS IS OF BULK AT MOST 1048576: true; the input reads as it did. -/
def fnArgLabel24UptoRow : OpenClaim := { program := "ytjppphnnlcpdmaa", sum := "ac63ae987b8eeb189632db59bb2e7159f4ac2d48d6d63b3fdc17d0ca2ac1d8eb", func := "loop.example/pub-g03133/laws.FnArgLabel24", spec := "fnArgLabel24", recurses := true, apart := false, narrowed := true }
def FnArgLabel24UptoSaid : Prop := fnArgLabel24UptoRow.holds Try.pinned (OpenSpec.upto fnArgLabel24Spec)

/-- 'laws.FnArgLabel24H', WHERE WHAT IT READS IS OF BULK AT MOST 1048576: true; the input reads as it did. -/
def fnArgLabel24HUptoRow : OpenClaim := { program := "ytjppphnnlcpdmaa", sum := "ac63ae987b8eeb189632db59bb2e7159f4ac2d48d6d63b3fdc17d0ca2ac1d8eb", func := "loop.example/pub-g03133/laws.FnArgLabel24H", spec := "fnArgLabel24H", recurses := true, apart := false, narrowed := true }
def FnArgLabel24HUptoSaid : Prop := fnArgLabel24HUptoRow.holds Try.pinned (OpenSpec.upto fnArgLabel24HSpec)

/-- 'laws.FnArgLabelM12', WHERE WHAT IT READS IS OF BULK AT MOST 1048576: true; the input reads as it did. -/
def fnArgLabelM12UptoRow : OpenClaim := { program := "ytjppphnnlcpdmaa", sum := "ac63ae987b8eeb189632db59bb2e7159f4ac2d48d6d63b3fdc17d0ca2ac1d8eb", func := "loop.example/pub-g03133/laws.FnArgLabelM12", spec := "fnArgLabelM12", recurses := true, apart := false, narrowed := true }
def FnArgLabelM12UptoSaid : Prop := fnArgLabelM12UptoRow.holds Try.pinned (OpenSpec.upto fnArgLabelM12Spec)

/-- 'laws.FnArgLabelP12', WHERE WHAT IT READS IS OF BULK AT MOST 1048576: true; the input reads as it did. -/
def fnArgLabelP12UptoRow : OpenClaim := { program := "ytjppphnnlcpdmaa", sum := "ac63ae987b8eeb189632db59bb2e7159f4ac2d48d6d63b3fdc17d0ca2ac1d8eb", func := "loop.example/pub-g03133/laws.FnArgLabelP12", spec := "fnArgLabelP12", recurses := true, apart := false, narrowed := true }
def FnArgLabelP12UptoSaid : Prop := fnArgLabelP12UptoRow.holds Try.pinned (OpenSpec.upto fnArgLabelP12Spec)

/-- 'laws.FnArgLabelPm12', WHERE WHAT IT READS IS OF BULK AT MOST 1048576: true; the input reads as it did. -/
def fnArgLabelPm12UptoRow : OpenClaim := { program := "ytjppphnnlcpdmaa", sum := "ac63ae987b8eeb189632db59bb2e7159f4ac2d48d6d63b3fdc17d0ca2ac1d8eb", func := "loop.example/pub-g03133/laws.FnArgLabelPm12", spec := "fnArgLabelPm12", recurses := true, apart := false, narrowed := true }
def FnArgLabelPm12UptoSaid : Prop := fnArgLabelPm12UptoRow.holds Try.pinned (OpenSpec.upto fnArgLabelPm12Spec)

/-- 'laws.FnArgLabelPm44', WHERE WHAT IT READS IS OF BULK AT MOST 1048576: true; the input reads as it did. -/
def fnArgLabelPm44UptoRow : OpenClaim := { program := "ytjppphnnlcpdmaa", sum := "ac63ae987b8eeb189632db59bb2e7159f4ac2d48d6d63b3fdc17d0ca2ac1d8eb", func := "loop.example/pub-g03133/laws.FnArgLabelPm44", spec := "fnArgLabelPm44", recurses := true, apart := false, narrowed := true }
def FnArgLabelPm44UptoSaid : Prop := fnArgLabelPm44UptoRow.holds Try.pinned (OpenSpec.upto fnArgLabelPm44Spec)

/-- 'laws.FnArgLsbWidth', WHERE WHAT IT READS IS OF BULK AT MOST 1048576: true; the input reads as it did. -/
def fnArgLsbWidthUptoRow : OpenClaim := { program := "ytjppphnnlcpdmaa", sum := "ac63ae987b8eeb189632db59bb2e7159f4ac2d48d6d63b3fdc17d0ca2ac1d8eb", func := "loop.example/pub-g03133/laws.FnArgLsbWidth", spec := "fnArgLsbWidth", recurses := true, apart := false, narrowed := true }
def FnArgLsbWidthUptoSaid : Prop := fnArgLsbWidthUptoRow.holds Try.pinned (OpenSpec.upto fnArgLsbWidthSpec)

/-- 'laws.FnArgOption', WHERE WHAT IT READS IS OF BULK AT MOST 1048576: true; the input reads as it did. -/
def fnArgOptionUptoRow : OpenClaim := { program := "ytjppphnnlcpdmaa", sum := "ac63ae987b8eeb189632db59bb2e7159f4ac2d48d6d63b3fdc17d0ca2ac1d8eb", func := "loop.example/pub-g03133/laws.FnArgOption", spec := "fnArgOption", recurses := true, apart := false, narrowed := true }
def FnArgOptionUptoSaid : Prop := fnArgOptionUptoRow.holds Try.pinned (OpenSpec.upto fnArgOptionSpec)

/-- 'laws.FnArgR0', WHERE WHAT IT READS IS OF BULK AT MOST 1048576: true; the input reads as it did. -/
def fnArgR0UptoRow : OpenClaim := { program := "ytjppphnnlcpdmaa", sum := "ac63ae987b8eeb189632db59bb2e7159f4ac2d48d6d63b3fdc17d0ca2ac1d8eb", func := "loop.example/pub-g03133/laws.FnArgR0", spec := "fnArgR0", recurses := true, apart := false, narrowed := true }
def FnArgR0UptoSaid : Prop := fnArgR0UptoRow.holds Try.pinned (OpenSpec.upto fnArgR0Spec)

end Rows
end Go.Proofs.Ytjppphnnlcpdmaa
