/-
  No cell of these rows narrows 'for every input' (looked for: loops, veiled, ifaces, maps, wideKeys, modest, calm, conditions, laid).
  DERIVED. THE GIVEN ROWS OF THIS SEAT. 3 by the template 'for every input the law returns true; each argument reads behind the call as it read before'; 0 by the template 'total and deterministic' (their statements: Qxb6619033aModsTotals.lean).
  GIVEN WITH THE SEED: the statements are not yours to turn. If you find one false, say at which input.
  Laid BY PROGRAM, IN A SANDBOX (cutbox-rows.mjs): the forced cells as the released guide's own fill.sh prints them over the translation 4d52bcc38a1493df… (all of the seat's roots in one cut). By AI agents, Wed Nov 11 2026. No macro, syntax, notation, axiom, sorry.
-/
import Derived.Test.Qxb6619033aModsChecked
import GoSem.Claim
import GoSem.ClaimJoined
import GoSem.ClaimMapViews
import Derived.JoinedTies
import Derived.KernelRfl
namespace Go.Proofs.Qxb6619033aMods
/- THE CELL 'sum', in the pinned program and in every row, IS THE sha256 OF THE DUMP (.gsa) THAT Qxb6619033aModsProg.lean LOADS. Nothing in Lean hashes anything: it is a label: what it is worth is what the hold of that sum in a sandbox is worth. -/
noncomputable def Trym.pinned : Pinned := { name := "qxb6619033amods", sum := "4d52bcc38a1493df563614bd2efba110b2a3700fce941bd7c6b533bdfa501522", checked := Trym.checked }
namespace Rows
def none {H : Type} : Left H := { results := [], args := [] }

/-- 'zzlaws_internal_store_space_b1.FnBeforeGroupAddsAndSteps': WHATEVER THE INPUT: true; the input reads as it did. -/
def fnBeforeGroupAddsAndStepsSpec : ChangeSpec := { name := "fnBeforeGroupAddsAndSteps", fn := fun _ => fun
  | [d1, d2] => { results := [.lit (.bool true)], args := [d1, d2] }
  | _ => none }
def fnBeforeGroupAddsAndStepsRow : OpenClaim := { program := "qxb6619033amods", sum := "4d52bcc38a1493df563614bd2efba110b2a3700fce941bd7c6b533bdfa501522", func := "example.com/onceblock/onceblock/zzlaws_internal_store_space_b1.FnBeforeGroupAddsAndSteps", spec := "fnBeforeGroupAddsAndSteps", make := .lifted ["publicsums"], apart := false }
def FnBeforeGroupAddsAndStepsSaid : Prop := fnBeforeGroupAddsAndStepsRow.holds Trym.pinned (OpenSpec.ofChange fnBeforeGroupAddsAndStepsSpec)

/-- ITS FALSE NEIGHBOUR: 'it returns false'. Refute it at one input. -/
def fnBeforeGroupAddsAndStepsWrong : ChangeSpec := { name := "fnBeforeGroupAddsAndSteps", fn := fun _ => fun
  | [d1, d2] => { results := [.lit (.bool false)], args := [d1, d2] }
  | _ => none }
def FnBeforeGroupAddsAndStepsWrongFalsely : Prop := fnBeforeGroupAddsAndStepsRow.holds Trym.pinned (OpenSpec.ofChange fnBeforeGroupAddsAndStepsWrong)

/-- 'zzlaws_internal_store_space_b1.FnBeforeGroupListableAgree': WHATEVER THE INPUT: true; the input reads as it did. -/
def fnBeforeGroupListableAgreeSpec : ChangeSpec := { name := "fnBeforeGroupListableAgree", fn := fun _ => fun
  | [d1, d2] => { results := [.lit (.bool true)], args := [d1, d2] }
  | _ => none }
def fnBeforeGroupListableAgreeRow : OpenClaim := { program := "qxb6619033amods", sum := "4d52bcc38a1493df563614bd2efba110b2a3700fce941bd7c6b533bdfa501522", func := "example.com/onceblock/onceblock/zzlaws_internal_store_space_b1.FnBeforeGroupListableAgree", spec := "fnBeforeGroupListableAgree", make := .lifted ["publicsums"], apart := false }
def FnBeforeGroupListableAgreeSaid : Prop := fnBeforeGroupListableAgreeRow.holds Trym.pinned (OpenSpec.ofChange fnBeforeGroupListableAgreeSpec)

/-- ITS FALSE NEIGHBOUR: 'it returns false'. Refute it at one input. -/
def fnBeforeGroupListableAgreeWrong : ChangeSpec := { name := "fnBeforeGroupListableAgree", fn := fun _ => fun
  | [d1, d2] => { results := [.lit (.bool false)], args := [d1, d2] }
  | _ => none }
def FnBeforeGroupListableAgreeWrongFalsely : Prop := fnBeforeGroupListableAgreeRow.holds Trym.pinned (OpenSpec.ofChange fnBeforeGroupListableAgreeWrong)

/-- 'zzlaws_internal_store_space_b1.FnCommittedForgetsStartedKeepsLoad': WHATEVER THE INPUT: true; the input reads as it did. -/
def fnCommittedForgetsStartedKeepsLoadSpec : ChangeSpec := { name := "fnCommittedForgetsStartedKeepsLoad", fn := fun _ => fun
  | [d1, d2, d3] => { results := [.lit (.bool true)], args := [d1, d2, d3] }
  | _ => none }
def fnCommittedForgetsStartedKeepsLoadRow : OpenClaim := { program := "qxb6619033amods", sum := "4d52bcc38a1493df563614bd2efba110b2a3700fce941bd7c6b533bdfa501522", func := "example.com/onceblock/onceblock/zzlaws_internal_store_space_b1.FnCommittedForgetsStartedKeepsLoad", spec := "fnCommittedForgetsStartedKeepsLoad", named := ["encoding/binary.LittleEndian"], make := .lifted ["publicsums"], apart := false }
def FnCommittedForgetsStartedKeepsLoadSaid : Prop := fnCommittedForgetsStartedKeepsLoadRow.holds Trym.pinned (OpenSpec.ofChange fnCommittedForgetsStartedKeepsLoadSpec)

/-- ITS FALSE NEIGHBOUR: 'it returns false'. Refute it at one input. -/
def fnCommittedForgetsStartedKeepsLoadWrong : ChangeSpec := { name := "fnCommittedForgetsStartedKeepsLoad", fn := fun _ => fun
  | [d1, d2, d3] => { results := [.lit (.bool false)], args := [d1, d2, d3] }
  | _ => none }
def FnCommittedForgetsStartedKeepsLoadWrongFalsely : Prop := fnCommittedForgetsStartedKeepsLoadRow.holds Trym.pinned (OpenSpec.ofChange fnCommittedForgetsStartedKeepsLoadWrong)

end Rows
end Go.Proofs.Qxb6619033aMods
