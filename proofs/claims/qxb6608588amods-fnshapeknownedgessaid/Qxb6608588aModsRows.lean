/-
  No cell of these rows narrows 'for every input' (looked for: loops, veiled, ifaces, maps, wideKeys, modest, calm, conditions, laid).
  DERIVED. THE GIVEN ROWS OF THIS SEAT. 2 by the template 'for every input the law returns true; each argument reads behind the call as it read before'; 0 by the template 'total and deterministic' (their statements: Qxb6608588aModsTotals.lean).
  GIVEN WITH THE SEED: the statements are not yours to turn. If you find one false, say at which input.
  Laid BY PROGRAM, IN A SANDBOX (cutbox-rows.mjs): the forced cells as the released guide's own fill.sh prints them over the translation a07f281ecce74032… (all of the seat's roots in one cut). By AI agents, Wed Nov 11 2026. No macro, syntax, notation, axiom, sorry.
-/
import Derived.Test.Qxb6608588aModsChecked
import GoSem.Claim
import GoSem.ClaimJoined
import GoSem.ClaimMapViews
import Derived.JoinedTies
import Derived.KernelRfl
namespace Go.Proofs.Qxb6608588aMods
/- THE CELL 'sum', in the pinned program and in every row, IS THE sha256 OF THE DUMP (.gsa) THAT Qxb6608588aModsProg.lean LOADS. Nothing in Lean hashes anything: it is a label: what it is worth is what the hold of that sum in a sandbox is worth. -/
noncomputable def Trym.pinned : Pinned := { name := "qxb6608588amods", sum := "a07f281ecce740323882ec96c91474a9acc359470d435b71ffceb83969dfb071", checked := Trym.checked }
namespace Rows
def none {H : Type} : Left H := { results := [], args := [] }

/-- 'zzlaws_root_b1.FnServiceListRunTwice': WHATEVER THE INPUT: true; the input reads as it did. -/
def fnServiceListRunTwiceSpec : ChangeSpec := { name := "fnServiceListRunTwice", fn := fun _ => fun
  | [d1, d2, d3, d4] => { results := [.lit (.bool true)], args := [d1, d2, d3, d4] }
  | _ => none }
def fnServiceListRunTwiceRow : OpenClaim := { program := "qxb6608588amods", sum := "a07f281ecce740323882ec96c91474a9acc359470d435b71ffceb83969dfb071", func := "example.com/hookline/hookline/zzlaws_root_b1.FnServiceListRunTwice", spec := "fnServiceListRunTwice", unfollowed := true, recurses := true, make := .lifted ["publicsums"], apart := false }
def FnServiceListRunTwiceSaid : Prop := fnServiceListRunTwiceRow.holds Trym.pinned (OpenSpec.ofChange fnServiceListRunTwiceSpec)

/-- ITS FALSE NEIGHBOUR: 'it returns false'. Refute it at one input. -/
def fnServiceListRunTwiceWrong : ChangeSpec := { name := "fnServiceListRunTwice", fn := fun _ => fun
  | [d1, d2, d3, d4] => { results := [.lit (.bool false)], args := [d1, d2, d3, d4] }
  | _ => none }
def FnServiceListRunTwiceWrongFalsely : Prop := fnServiceListRunTwiceRow.holds Trym.pinned (OpenSpec.ofChange fnServiceListRunTwiceWrong)

/-- 'zzlaws_root_b1.FnShapeKnownEdges': WHATEVER THE INPUT: true; the input reads as it did. -/
def fnShapeKnownEdgesSpec : ChangeSpec := { name := "fnShapeKnownEdges", fn := fun _ => fun
  | [d] => { results := [.lit (.bool true)], args := [d] }
  | _ => none }
def fnShapeKnownEdgesRow : OpenClaim := { program := "qxb6608588amods", sum := "a07f281ecce740323882ec96c91474a9acc359470d435b71ffceb83969dfb071", func := "example.com/hookline/hookline/zzlaws_root_b1.FnShapeKnownEdges", spec := "fnShapeKnownEdges", make := .lifted ["publicsums"], apart := false }
def FnShapeKnownEdgesSaid : Prop := fnShapeKnownEdgesRow.holds Trym.pinned (OpenSpec.ofChange fnShapeKnownEdgesSpec)

/-- ITS FALSE NEIGHBOUR: 'it returns false'. Refute it at one input. -/
def fnShapeKnownEdgesWrong : ChangeSpec := { name := "fnShapeKnownEdges", fn := fun _ => fun
  | [d] => { results := [.lit (.bool false)], args := [d] }
  | _ => none }
def FnShapeKnownEdgesWrongFalsely : Prop := fnShapeKnownEdgesRow.holds Trym.pinned (OpenSpec.ofChange fnShapeKnownEdgesWrong)

end Rows
end Go.Proofs.Qxb6608588aMods
