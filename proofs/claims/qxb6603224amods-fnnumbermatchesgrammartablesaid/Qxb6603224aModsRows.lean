/-
  No cell of these rows narrows 'for every input' (looked for: loops, veiled, ifaces, maps, wideKeys, modest, calm, conditions, laid).
  DERIVED. THE GIVEN ROWS OF THIS SEAT. 2 by the template 'for every input the law returns true; each argument reads behind the call as it read before'; 0 by the template 'total and deterministic' (their statements: Qxb6603224aModsTotals.lean).
  GIVEN WITH THE SEED: the statements are not yours to turn. If you find one false, say at which input.
  Laid BY PROGRAM, IN A SANDBOX (cutbox-rows.mjs): the forced cells as the released guide's own fill.sh prints them over the translation c9465f0b3bd8088d… (all of the seat's roots in one cut). By AI agents, Wed Nov 11 2026. No macro, syntax, notation, axiom, sorry.
-/
import Derived.Test.Qxb6603224aModsChecked
import GoSem.Claim
import GoSem.ClaimJoined
import GoSem.ClaimMapViews
import Derived.JoinedTies
import Derived.KernelRfl
namespace Go.Proofs.Qxb6603224aMods
/- THE CELL 'sum', in the pinned program and in every row, IS THE sha256 OF THE DUMP (.gsa) THAT Qxb6603224aModsProg.lean LOADS. Nothing in Lean hashes anything: it is a label: what it is worth is what the hold of that sum in a sandbox is worth. -/
noncomputable def Trym.pinned : Pinned := { name := "qxb6603224amods", sum := "c9465f0b3bd8088db112781564779a763bab179cb16b1d612dad965de22abed5", checked := Trym.checked }
namespace Rows
def none {H : Type} : Left H := { results := [], args := [] }

/-- 'zzlaws_clusters_b1.FnNumberMatchesGrammarTable': WHATEVER THE INPUT: true; the input reads as it did. -/
def fnNumberMatchesGrammarTableSpec : ChangeSpec := { name := "fnNumberMatchesGrammarTable", fn := fun _ => fun
  | [d1, d2, d3, d4, d5, d6, d7] => { results := [.lit (.bool true)], args := [d1, d2, d3, d4, d5, d6, d7] }
  | _ => none }
def fnNumberMatchesGrammarTableRow : OpenClaim := { program := "qxb6603224amods", sum := "c9465f0b3bd8088db112781564779a763bab179cb16b1d612dad965de22abed5", func := "example.com/scoped-pass/scoped-pass/zzlaws_clusters_b1.FnNumberMatchesGrammarTable", spec := "fnNumberMatchesGrammarTable", make := .lifted ["publicsums"], apart := false }
def FnNumberMatchesGrammarTableSaid : Prop := fnNumberMatchesGrammarTableRow.holds Trym.pinned (OpenSpec.ofChange fnNumberMatchesGrammarTableSpec)

/-- ITS FALSE NEIGHBOUR: 'it returns false'. Refute it at one input. -/
def fnNumberMatchesGrammarTableWrong : ChangeSpec := { name := "fnNumberMatchesGrammarTable", fn := fun _ => fun
  | [d1, d2, d3, d4, d5, d6, d7] => { results := [.lit (.bool false)], args := [d1, d2, d3, d4, d5, d6, d7] }
  | _ => none }
def FnNumberMatchesGrammarTableWrongFalsely : Prop := fnNumberMatchesGrammarTableRow.holds Trym.pinned (OpenSpec.ofChange fnNumberMatchesGrammarTableWrong)

/-- 'zzlaws_clusters_b1.FnNumberScanAcceptsExactlyJSONNumbers': WHATEVER THE INPUT: true; the input reads as it did. -/
def fnNumberScanAcceptsExactlyJSONNumbersSpec : ChangeSpec := { name := "fnNumberScanAcceptsExactlyJSONNumbers", fn := fun _ => fun
  | [d] => { results := [.lit (.bool true)], args := [d] }
  | _ => none }
def fnNumberScanAcceptsExactlyJSONNumbersRow : OpenClaim := { program := "qxb6603224amods", sum := "c9465f0b3bd8088db112781564779a763bab179cb16b1d612dad965de22abed5", func := "example.com/scoped-pass/scoped-pass/zzlaws_clusters_b1.FnNumberScanAcceptsExactlyJSONNumbers", spec := "fnNumberScanAcceptsExactlyJSONNumbers", make := .lifted ["publicsums"], apart := false }
def FnNumberScanAcceptsExactlyJSONNumbersSaid : Prop := fnNumberScanAcceptsExactlyJSONNumbersRow.holds Trym.pinned (OpenSpec.ofChange fnNumberScanAcceptsExactlyJSONNumbersSpec)

/-- ITS FALSE NEIGHBOUR: 'it returns false'. Refute it at one input. -/
def fnNumberScanAcceptsExactlyJSONNumbersWrong : ChangeSpec := { name := "fnNumberScanAcceptsExactlyJSONNumbers", fn := fun _ => fun
  | [d] => { results := [.lit (.bool false)], args := [d] }
  | _ => none }
def FnNumberScanAcceptsExactlyJSONNumbersWrongFalsely : Prop := fnNumberScanAcceptsExactlyJSONNumbersRow.holds Trym.pinned (OpenSpec.ofChange fnNumberScanAcceptsExactlyJSONNumbersWrong)

end Rows
end Go.Proofs.Qxb6603224aMods
