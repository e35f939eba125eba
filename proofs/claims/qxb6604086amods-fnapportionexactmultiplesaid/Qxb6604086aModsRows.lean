/-
  No cell of these rows narrows 'for every input' (looked for: loops, veiled, ifaces, maps, wideKeys, modest, calm, conditions, laid).
  DERIVED. THE GIVEN ROWS OF THIS SEAT. 3 by the template 'for every input the law returns true; each argument reads behind the call as it read before'; 0 by the template 'total and deterministic' (their statements: Qxb6604086aModsTotals.lean).
  GIVEN WITH THE SEED: the statements are not yours to turn. If you find one false, say at which input.
  Laid BY PROGRAM, IN A SANDBOX (cutbox-rows.mjs): the forced cells as the released guide's own fill.sh prints them over the translation f52c79e11cedb91e… (all of the seat's roots in one cut). By AI agents, Wed Nov 11 2026. No macro, syntax, notation, axiom, sorry.
-/
import Derived.Test.Qxb6604086aModsChecked
import GoSem.Claim
import GoSem.ClaimJoined
import GoSem.ClaimMapViews
import Derived.JoinedTies
import Derived.KernelRfl
namespace Go.Proofs.Qxb6604086aMods
/- THE CELL 'sum', in the pinned program and in every row, IS THE sha256 OF THE DUMP (.gsa) THAT Qxb6604086aModsProg.lean LOADS. Nothing in Lean hashes anything: it is a label: what it is worth is what the hold of that sum in a sandbox is worth. -/
noncomputable def Trym.pinned : Pinned := { name := "qxb6604086amods", sum := "f52c79e11cedb91eca284a2030d5c58bf039c28f134e1099e08b1e820ed3995b", checked := Trym.checked }
namespace Rows
def none {H : Type} : Left H := { results := [], args := [] }

/-- 'zzlaws_format_b1.FnApportionLargestRemainder': WHATEVER THE INPUT: true; the input reads as it did. -/
def fnApportionLargestRemainderSpec : ChangeSpec := { name := "fnApportionLargestRemainder", fn := fun _ => fun
  | [d1, d2] => { results := [.lit (.bool true)], args := [d1, d2] }
  | _ => none }
def fnApportionLargestRemainderRow : OpenClaim := { program := "qxb6604086amods", sum := "f52c79e11cedb91eca284a2030d5c58bf039c28f134e1099e08b1e820ed3995b", func := "example.com/echoless/echoless/zzlaws_format_b1.FnApportionLargestRemainder", spec := "fnApportionLargestRemainder", make := .lifted ["publicsums"], apart := false }
def FnApportionLargestRemainderSaid : Prop := fnApportionLargestRemainderRow.holds Trym.pinned (OpenSpec.ofChange fnApportionLargestRemainderSpec)

/-- ITS FALSE NEIGHBOUR: 'it returns false'. Refute it at one input. -/
def fnApportionLargestRemainderWrong : ChangeSpec := { name := "fnApportionLargestRemainder", fn := fun _ => fun
  | [d1, d2] => { results := [.lit (.bool false)], args := [d1, d2] }
  | _ => none }
def FnApportionLargestRemainderWrongFalsely : Prop := fnApportionLargestRemainderRow.holds Trym.pinned (OpenSpec.ofChange fnApportionLargestRemainderWrong)

/-- 'zzlaws_format_b1.FnApportionExactMultiple': WHATEVER THE INPUT: true; the input reads as it did. -/
def fnApportionExactMultipleSpec : ChangeSpec := { name := "fnApportionExactMultiple", fn := fun _ => fun
  | [d1, d2] => { results := [.lit (.bool true)], args := [d1, d2] }
  | _ => none }
def fnApportionExactMultipleRow : OpenClaim := { program := "qxb6604086amods", sum := "f52c79e11cedb91eca284a2030d5c58bf039c28f134e1099e08b1e820ed3995b", func := "example.com/echoless/echoless/zzlaws_format_b1.FnApportionExactMultiple", spec := "fnApportionExactMultiple", make := .lifted ["publicsums"], apart := false }
def FnApportionExactMultipleSaid : Prop := fnApportionExactMultipleRow.holds Trym.pinned (OpenSpec.ofChange fnApportionExactMultipleSpec)

/-- ITS FALSE NEIGHBOUR: 'it returns false'. Refute it at one input. -/
def fnApportionExactMultipleWrong : ChangeSpec := { name := "fnApportionExactMultiple", fn := fun _ => fun
  | [d1, d2] => { results := [.lit (.bool false)], args := [d1, d2] }
  | _ => none }
def FnApportionExactMultipleWrongFalsely : Prop := fnApportionExactMultipleRow.holds Trym.pinned (OpenSpec.ofChange fnApportionExactMultipleWrong)

/-- 'zzlaws_format_b1.FnDescribesOwnRecord': WHATEVER THE INPUT: true; the input reads as it did. -/
def fnDescribesOwnRecordSpec : ChangeSpec := { name := "fnDescribesOwnRecord", fn := fun _ => fun
  | [d1, d2, d3, d4, d5] => { results := [.lit (.bool true)], args := [d1, d2, d3, d4, d5] }
  | _ => none }
def fnDescribesOwnRecordRow : OpenClaim := { program := "qxb6604086amods", sum := "f52c79e11cedb91eca284a2030d5c58bf039c28f134e1099e08b1e820ed3995b", func := "example.com/echoless/echoless/zzlaws_format_b1.FnDescribesOwnRecord", spec := "fnDescribesOwnRecord", make := .lifted ["publicsums"], apart := false }
def FnDescribesOwnRecordSaid : Prop := fnDescribesOwnRecordRow.holds Trym.pinned (OpenSpec.ofChange fnDescribesOwnRecordSpec)

/-- ITS FALSE NEIGHBOUR: 'it returns false'. Refute it at one input. -/
def fnDescribesOwnRecordWrong : ChangeSpec := { name := "fnDescribesOwnRecord", fn := fun _ => fun
  | [d1, d2, d3, d4, d5] => { results := [.lit (.bool false)], args := [d1, d2, d3, d4, d5] }
  | _ => none }
def FnDescribesOwnRecordWrongFalsely : Prop := fnDescribesOwnRecordRow.holds Trym.pinned (OpenSpec.ofChange fnDescribesOwnRecordWrong)

end Rows
end Go.Proofs.Qxb6604086aMods
