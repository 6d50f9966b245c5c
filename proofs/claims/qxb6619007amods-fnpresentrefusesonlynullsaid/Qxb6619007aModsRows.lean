/-
  No cell of these rows narrows 'for every input' (looked for: loops, veiled, ifaces, maps, wideKeys, modest, calm, conditions, laid).
  DERIVED. THE GIVEN ROWS OF THIS SEAT. 5 by the template 'for every input the law returns true; each argument reads behind the call as it read before'; 0 by the template 'total and deterministic' (their statements: Qxb6619007aModsTotals.lean).
  GIVEN WITH THE SEED: the statements are not yours to turn. If you find one false, say at which input.
  Laid BY PROGRAM, IN A SANDBOX (cutbox-rows.mjs): the forced cells as the released guide's own fill.sh prints them over the translation 25c7b5a783fd5360… (all of the seat's roots in one cut). By AI agents, Wed Nov 11 2026. No macro, syntax, notation, axiom, sorry.
-/
import Derived.Test.Qxb6619007aModsChecked
import GoSem.Claim
import GoSem.ClaimJoined
import GoSem.ClaimMapViews
import Derived.JoinedTies
import Derived.KernelRfl
namespace Go.Proofs.Qxb6619007aMods
/- THE CELL 'sum', in the pinned program and in every row, IS THE sha256 OF THE DUMP (.gsa) THAT Qxb6619007aModsProg.lean LOADS. Nothing in Lean hashes anything: it is a label: what it is worth is what the hold of that sum in a sandbox is worth. -/
noncomputable def Trym.pinned : Pinned := { name := "qxb6619007amods", sum := "25c7b5a783fd53606bce647ff6dccc4ac6ec6f6f2880d63b9d0d89ab34c35dc6", checked := Trym.checked }
namespace Rows
def none {H : Type} : Left H := { results := [], args := [] }

/-- 'zzlaws_root_b1.FnBinaryKeyTailDecides': WHATEVER THE INPUT: true; the input reads as it did. -/
def fnBinaryKeyTailDecidesSpec : ChangeSpec := { name := "fnBinaryKeyTailDecides", fn := fun _ => fun
  | [d1, d2] => { results := [.lit (.bool true)], args := [d1, d2] }
  | _ => none }
def fnBinaryKeyTailDecidesRow : OpenClaim := { program := "qxb6619007amods", sum := "25c7b5a783fd53606bce647ff6dccc4ac6ec6f6f2880d63b9d0d89ab34c35dc6", func := "example.com/bowline/bowline/zzlaws_root_b1.FnBinaryKeyTailDecides", spec := "fnBinaryKeyTailDecides", make := .lifted ["publicsums"], apart := false }
def FnBinaryKeyTailDecidesSaid : Prop := fnBinaryKeyTailDecidesRow.holds Trym.pinned (OpenSpec.ofChange fnBinaryKeyTailDecidesSpec)

/-- ITS FALSE NEIGHBOUR: 'it returns false'. Refute it at one input. -/
def fnBinaryKeyTailDecidesWrong : ChangeSpec := { name := "fnBinaryKeyTailDecides", fn := fun _ => fun
  | [d1, d2] => { results := [.lit (.bool false)], args := [d1, d2] }
  | _ => none }
def FnBinaryKeyTailDecidesWrongFalsely : Prop := fnBinaryKeyTailDecidesRow.holds Trym.pinned (OpenSpec.ofChange fnBinaryKeyTailDecidesWrong)

/-- 'zzlaws_root_b1.FnBinaryKeyLastByte': WHATEVER THE INPUT: true; the input reads as it did. -/
def fnBinaryKeyLastByteSpec : ChangeSpec := { name := "fnBinaryKeyLastByte", fn := fun _ => fun
  | [d1, d2] => { results := [.lit (.bool true)], args := [d1, d2] }
  | _ => none }
def fnBinaryKeyLastByteRow : OpenClaim := { program := "qxb6619007amods", sum := "25c7b5a783fd53606bce647ff6dccc4ac6ec6f6f2880d63b9d0d89ab34c35dc6", func := "example.com/bowline/bowline/zzlaws_root_b1.FnBinaryKeyLastByte", spec := "fnBinaryKeyLastByte", make := .lifted ["publicsums"], apart := false }
def FnBinaryKeyLastByteSaid : Prop := fnBinaryKeyLastByteRow.holds Trym.pinned (OpenSpec.ofChange fnBinaryKeyLastByteSpec)

/-- ITS FALSE NEIGHBOUR: 'it returns false'. Refute it at one input. -/
def fnBinaryKeyLastByteWrong : ChangeSpec := { name := "fnBinaryKeyLastByte", fn := fun _ => fun
  | [d1, d2] => { results := [.lit (.bool false)], args := [d1, d2] }
  | _ => none }
def FnBinaryKeyLastByteWrongFalsely : Prop := fnBinaryKeyLastByteRow.holds Trym.pinned (OpenSpec.ofChange fnBinaryKeyLastByteWrong)

/-- 'zzlaws_root_b1.FnNewStatusRoundTrip': WHATEVER THE INPUT: true; the input reads as it did. -/
def fnNewStatusRoundTripSpec : ChangeSpec := { name := "fnNewStatusRoundTrip", fn := fun _ => fun
  | [d1, d2] => { results := [.lit (.bool true)], args := [d1, d2] }
  | _ => none }
def fnNewStatusRoundTripRow : OpenClaim := { program := "qxb6619007amods", sum := "25c7b5a783fd53606bce647ff6dccc4ac6ec6f6f2880d63b9d0d89ab34c35dc6", func := "example.com/bowline/bowline/zzlaws_root_b1.FnNewStatusRoundTrip", spec := "fnNewStatusRoundTrip", make := .lifted ["publicsums"], apart := false }
def FnNewStatusRoundTripSaid : Prop := fnNewStatusRoundTripRow.holds Trym.pinned (OpenSpec.ofChange fnNewStatusRoundTripSpec)

/-- ITS FALSE NEIGHBOUR: 'it returns false'. Refute it at one input. -/
def fnNewStatusRoundTripWrong : ChangeSpec := { name := "fnNewStatusRoundTrip", fn := fun _ => fun
  | [d1, d2] => { results := [.lit (.bool false)], args := [d1, d2] }
  | _ => none }
def FnNewStatusRoundTripWrongFalsely : Prop := fnNewStatusRoundTripRow.holds Trym.pinned (OpenSpec.ofChange fnNewStatusRoundTripWrong)

/-- 'zzlaws_root_b1.FnPresentRefusesOnlyNull': WHATEVER THE INPUT: true; the input reads as it did. -/
def fnPresentRefusesOnlyNullSpec : ChangeSpec := { name := "fnPresentRefusesOnlyNull", fn := fun _ => fun
  | [d1, d2] => { results := [.lit (.bool true)], args := [d1, d2] }
  | _ => none }
def fnPresentRefusesOnlyNullRow : OpenClaim := { program := "qxb6619007amods", sum := "25c7b5a783fd53606bce647ff6dccc4ac6ec6f6f2880d63b9d0d89ab34c35dc6", func := "example.com/bowline/bowline/zzlaws_root_b1.FnPresentRefusesOnlyNull", spec := "fnPresentRefusesOnlyNull", make := .lifted ["publicsums"], apart := false }
def FnPresentRefusesOnlyNullSaid : Prop := fnPresentRefusesOnlyNullRow.holds Trym.pinned (OpenSpec.ofChange fnPresentRefusesOnlyNullSpec)

/-- ITS FALSE NEIGHBOUR: 'it returns false'. Refute it at one input. -/
def fnPresentRefusesOnlyNullWrong : ChangeSpec := { name := "fnPresentRefusesOnlyNull", fn := fun _ => fun
  | [d1, d2] => { results := [.lit (.bool false)], args := [d1, d2] }
  | _ => none }
def FnPresentRefusesOnlyNullWrongFalsely : Prop := fnPresentRefusesOnlyNullRow.holds Trym.pinned (OpenSpec.ofChange fnPresentRefusesOnlyNullWrong)

/-- 'zzlaws_root_b1.FnPresentNullOnlyAlone': WHATEVER THE INPUT: true; the input reads as it did. -/
def fnPresentNullOnlyAloneSpec : ChangeSpec := { name := "fnPresentNullOnlyAlone", fn := fun _ => fun
  | [d1, d2] => { results := [.lit (.bool true)], args := [d1, d2] }
  | _ => none }
def fnPresentNullOnlyAloneRow : OpenClaim := { program := "qxb6619007amods", sum := "25c7b5a783fd53606bce647ff6dccc4ac6ec6f6f2880d63b9d0d89ab34c35dc6", func := "example.com/bowline/bowline/zzlaws_root_b1.FnPresentNullOnlyAlone", spec := "fnPresentNullOnlyAlone", make := .lifted ["publicsums"], apart := false }
def FnPresentNullOnlyAloneSaid : Prop := fnPresentNullOnlyAloneRow.holds Trym.pinned (OpenSpec.ofChange fnPresentNullOnlyAloneSpec)

/-- ITS FALSE NEIGHBOUR: 'it returns false'. Refute it at one input. -/
def fnPresentNullOnlyAloneWrong : ChangeSpec := { name := "fnPresentNullOnlyAlone", fn := fun _ => fun
  | [d1, d2] => { results := [.lit (.bool false)], args := [d1, d2] }
  | _ => none }
def FnPresentNullOnlyAloneWrongFalsely : Prop := fnPresentNullOnlyAloneRow.holds Trym.pinned (OpenSpec.ofChange fnPresentNullOnlyAloneWrong)

end Rows
end Go.Proofs.Qxb6619007aMods
