/-
  No cell of these rows narrows 'for every input' (looked for: loops, veiled, ifaces, maps, wideKeys, modest, calm, conditions, laid).
  DERIVED. THE GIVEN ROWS OF THIS SEAT. 3 by the template 'for every input the law returns true; each argument reads behind the call as it read before'; 0 by the template 'total and deterministic' (their statements: Qxb6604226aModsTotals.lean).
  GIVEN WITH THE SEED: the statements are not yours to turn. If you find one false, say at which input.
  Laid BY PROGRAM, IN A SANDBOX (cutbox-rows.mjs): the forced cells as the released guide's own fill.sh prints them over the translation b93dd7421c386801… (all of the seat's roots in one cut). By AI agents, Wed Nov 11 2026. No macro, syntax, notation, axiom, sorry.
-/
import Derived.Test.Qxb6604226aModsChecked
import GoSem.Claim
import GoSem.ClaimJoined
import GoSem.ClaimMapViews
import Derived.JoinedTies
import Derived.KernelRfl
namespace Go.Proofs.Qxb6604226aMods
/- THE CELL 'sum', in the pinned program and in every row, IS THE sha256 OF THE DUMP (.gsa) THAT Qxb6604226aModsProg.lean LOADS. Nothing in Lean hashes anything: it is a label: what it is worth is what the hold of that sum in a sandbox is worth. -/
noncomputable def Trym.pinned : Pinned := { name := "qxb6604226amods", sum := "b93dd7421c386801b75316dd89b1a17853b63f7416ac5d4ebaaee3e628eba1a1", checked := Trym.checked }
namespace Rows
def none {H : Type} : Left H := { results := [], args := [] }

/-- 'zzlaws_pkg_pathstore_b1.FnListingAddExact': WHATEVER THE INPUT: true; the input reads as it did. -/
def fnListingAddExactSpec : ChangeSpec := { name := "fnListingAddExact", fn := fun _ => fun
  | [d1, d2, d3] => { results := [.lit (.bool true)], args := [d1, d2, d3] }
  | _ => none }
def fnListingAddExactRow : OpenClaim := { program := "qxb6604226amods", sum := "b93dd7421c386801b75316dd89b1a17853b63f7416ac5d4ebaaee3e628eba1a1", func := "example.com/sobre/sobre/zzlaws_pkg_pathstore_b1.FnListingAddExact", spec := "fnListingAddExact", inPlace := ["internal/bytealg.IndexByteString"], make := .lifted ["publicsums"], apart := false }
def FnListingAddExactSaid : Prop := fnListingAddExactRow.holds Trym.pinned (OpenSpec.ofChange fnListingAddExactSpec)

/-- ITS FALSE NEIGHBOUR: 'it returns false'. Refute it at one input. -/
def fnListingAddExactWrong : ChangeSpec := { name := "fnListingAddExact", fn := fun _ => fun
  | [d1, d2, d3] => { results := [.lit (.bool false)], args := [d1, d2, d3] }
  | _ => none }
def FnListingAddExactWrongFalsely : Prop := fnListingAddExactRow.holds Trym.pinned (OpenSpec.ofChange fnListingAddExactWrong)

/-- 'zzlaws_pkg_pathstore_b1.FnListingAddRoundTrip': WHATEVER THE INPUT: true; the input reads as it did. -/
def fnListingAddRoundTripSpec : ChangeSpec := { name := "fnListingAddRoundTrip", fn := fun _ => fun
  | [d1, d2, d3, d4, d5] => { results := [.lit (.bool true)], args := [d1, d2, d3, d4, d5] }
  | _ => none }
def fnListingAddRoundTripRow : OpenClaim := { program := "qxb6604226amods", sum := "b93dd7421c386801b75316dd89b1a17853b63f7416ac5d4ebaaee3e628eba1a1", func := "example.com/sobre/sobre/zzlaws_pkg_pathstore_b1.FnListingAddRoundTrip", spec := "fnListingAddRoundTrip", inPlace := ["internal/bytealg.IndexByteString"], make := .lifted ["publicsums"], apart := false }
def FnListingAddRoundTripSaid : Prop := fnListingAddRoundTripRow.holds Trym.pinned (OpenSpec.ofChange fnListingAddRoundTripSpec)

/-- ITS FALSE NEIGHBOUR: 'it returns false'. Refute it at one input. -/
def fnListingAddRoundTripWrong : ChangeSpec := { name := "fnListingAddRoundTrip", fn := fun _ => fun
  | [d1, d2, d3, d4, d5] => { results := [.lit (.bool false)], args := [d1, d2, d3, d4, d5] }
  | _ => none }
def FnListingAddRoundTripWrongFalsely : Prop := fnListingAddRoundTripRow.holds Trym.pinned (OpenSpec.ofChange fnListingAddRoundTripWrong)

/-- 'zzlaws_pkg_pathstore_b1.FnDirectorySpec': WHATEVER THE INPUT: true; the input reads as it did. -/
def fnDirectorySpecSpec : ChangeSpec := { name := "fnDirectorySpec", fn := fun _ => fun
  | [d] => { results := [.lit (.bool true)], args := [d] }
  | _ => none }
def fnDirectorySpecRow : OpenClaim := { program := "qxb6604226amods", sum := "b93dd7421c386801b75316dd89b1a17853b63f7416ac5d4ebaaee3e628eba1a1", func := "example.com/sobre/sobre/zzlaws_pkg_pathstore_b1.FnDirectorySpec", spec := "fnDirectorySpec", make := .lifted ["publicsums"], apart := false }
def FnDirectorySpecSaid : Prop := fnDirectorySpecRow.holds Trym.pinned (OpenSpec.ofChange fnDirectorySpecSpec)

/-- ITS FALSE NEIGHBOUR: 'it returns false'. Refute it at one input. -/
def fnDirectorySpecWrong : ChangeSpec := { name := "fnDirectorySpec", fn := fun _ => fun
  | [d] => { results := [.lit (.bool false)], args := [d] }
  | _ => none }
def FnDirectorySpecWrongFalsely : Prop := fnDirectorySpecRow.holds Trym.pinned (OpenSpec.ofChange fnDirectorySpecWrong)

end Rows
end Go.Proofs.Qxb6604226aMods
