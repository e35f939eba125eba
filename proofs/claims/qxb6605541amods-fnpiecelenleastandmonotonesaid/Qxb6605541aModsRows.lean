/-
  No cell of these rows narrows 'for every input' (looked for: loops, veiled, ifaces, maps, wideKeys, modest, calm, conditions, laid).
  DERIVED. THE GIVEN ROWS OF THIS SEAT. 2 by the template 'for every input the law returns true; each argument reads behind the call as it read before'; 0 by the template 'total and deterministic' (their statements: Qxb6605541aModsTotals.lean).
  GIVEN WITH THE SEED: the statements are not yours to turn. If you find one false, say at which input.
  Laid BY PROGRAM, IN A SANDBOX (cutbox-rows.mjs): the forced cells as the released guide's own fill.sh prints them over the translation df3018a58aae0548… (all of the seat's roots in one cut). By AI agents, Wed Nov 11 2026. No macro, syntax, notation, axiom, sorry.
-/
import Derived.Test.Qxb6605541aModsChecked
import GoSem.Claim
import GoSem.ClaimJoined
import GoSem.ClaimMapViews
import Derived.JoinedTies
import Derived.KernelRfl
namespace Go.Proofs.Qxb6605541aMods
/- THE CELL 'sum', in the pinned program and in every row, IS THE sha256 OF THE DUMP (.gsa) THAT Qxb6605541aModsProg.lean LOADS. Nothing in Lean hashes anything: it is a label: what it is worth is what the hold of that sum in a sandbox is worth. -/
noncomputable def Trym.pinned : Pinned := { name := "qxb6605541amods", sum := "df3018a58aae0548b8f29e3d45b94865dd516eb20ade1296d70db7bd76a1b64e", checked := Trym.checked }
namespace Rows
def none {H : Type} : Left H := { results := [], args := [] }

/-- 'zzlaws_store_b1.FnPieceLenExact': WHATEVER THE INPUT: true; the input reads as it did. -/
def fnPieceLenExactSpec : ChangeSpec := { name := "fnPieceLenExact", fn := fun _ => fun
  | [d] => { results := [.lit (.bool true)], args := [d] }
  | _ => none }
def fnPieceLenExactRow : OpenClaim := { program := "qxb6605541amods", sum := "df3018a58aae0548b8f29e3d45b94865dd516eb20ade1296d70db7bd76a1b64e", func := "example.com/weirstone/weirstone/zzlaws_store_b1.FnPieceLenExact", spec := "fnPieceLenExact", make := .lifted ["publicsums"], apart := false }
def FnPieceLenExactSaid : Prop := fnPieceLenExactRow.holds Trym.pinned (OpenSpec.ofChange fnPieceLenExactSpec)

/-- ITS FALSE NEIGHBOUR: 'it returns false'. Refute it at one input. -/
def fnPieceLenExactWrong : ChangeSpec := { name := "fnPieceLenExact", fn := fun _ => fun
  | [d] => { results := [.lit (.bool false)], args := [d] }
  | _ => none }
def FnPieceLenExactWrongFalsely : Prop := fnPieceLenExactRow.holds Trym.pinned (OpenSpec.ofChange fnPieceLenExactWrong)

/-- 'zzlaws_store_b1.FnPieceLenLeastAndMonotone': WHATEVER THE INPUT: true; the input reads as it did. -/
def fnPieceLenLeastAndMonotoneSpec : ChangeSpec := { name := "fnPieceLenLeastAndMonotone", fn := fun _ => fun
  | [d1, d2] => { results := [.lit (.bool true)], args := [d1, d2] }
  | _ => none }
def fnPieceLenLeastAndMonotoneRow : OpenClaim := { program := "qxb6605541amods", sum := "df3018a58aae0548b8f29e3d45b94865dd516eb20ade1296d70db7bd76a1b64e", func := "example.com/weirstone/weirstone/zzlaws_store_b1.FnPieceLenLeastAndMonotone", spec := "fnPieceLenLeastAndMonotone", make := .lifted ["publicsums"], apart := false }
def FnPieceLenLeastAndMonotoneSaid : Prop := fnPieceLenLeastAndMonotoneRow.holds Trym.pinned (OpenSpec.ofChange fnPieceLenLeastAndMonotoneSpec)

/-- ITS FALSE NEIGHBOUR: 'it returns false'. Refute it at one input. -/
def fnPieceLenLeastAndMonotoneWrong : ChangeSpec := { name := "fnPieceLenLeastAndMonotone", fn := fun _ => fun
  | [d1, d2] => { results := [.lit (.bool false)], args := [d1, d2] }
  | _ => none }
def FnPieceLenLeastAndMonotoneWrongFalsely : Prop := fnPieceLenLeastAndMonotoneRow.holds Trym.pinned (OpenSpec.ofChange fnPieceLenLeastAndMonotoneWrong)

end Rows
end Go.Proofs.Qxb6605541aMods
