/-
  No cell of these rows narrows 'for every input' (looked for: loops, veiled, ifaces, maps, wideKeys, modest, calm, conditions, laid).
  DERIVED. THE GIVEN ROWS OF THIS SEAT. 4 by the template 'for every input the law returns true; each argument reads behind the call as it read before'; 0 by the template 'total and deterministic' (their statements: Qxb6605698aModsTotals.lean).
  GIVEN WITH THE SEED: the statements are not yours to turn. If you find one false, say at which input.
  Laid BY PROGRAM, IN A SANDBOX (cutbox-rows.mjs): the forced cells as the released guide's own fill.sh prints them over the translation ba8810715d12d380… (all of the seat's roots in one cut). By AI agents, Wed Nov 11 2026. No macro, syntax, notation, axiom, sorry.
-/
import Derived.Test.Qxb6605698aModsChecked
import GoSem.Claim
import GoSem.ClaimJoined
import GoSem.ClaimMapViews
import Derived.JoinedTies
import Derived.KernelRfl
namespace Go.Proofs.Qxb6605698aMods
/- THE CELL 'sum', in the pinned program and in every row, IS THE sha256 OF THE DUMP (.gsa) THAT Qxb6605698aModsProg.lean LOADS. Nothing in Lean hashes anything: it is a label: what it is worth is what the hold of that sum in a sandbox is worth. -/
noncomputable def Trym.pinned : Pinned := { name := "qxb6605698amods", sum := "ba8810715d12d380750f89bc60ca5d64412159c40e55a56a2b4207e95c853400", checked := Trym.checked }
namespace Rows
def none {H : Type} : Left H := { results := [], args := [] }

/-- 'zzlaws_pkg_repo_b1.FnCanDecodeToIsSizeWithinFrames': WHATEVER THE INPUT: true; the input reads as it did. -/
def fnCanDecodeToIsSizeWithinFramesSpec : ChangeSpec := { name := "fnCanDecodeToIsSizeWithinFrames", fn := fun _ => fun
  | [d1, d2] => { results := [.lit (.bool true)], args := [d1, d2] }
  | _ => none }
def fnCanDecodeToIsSizeWithinFramesRow : OpenClaim := { program := "qxb6605698amods", sum := "ba8810715d12d380750f89bc60ca5d64412159c40e55a56a2b4207e95c853400", func := "example.com/tidemark/tidemark/zzlaws_pkg_repo_b1.FnCanDecodeToIsSizeWithinFrames", spec := "fnCanDecodeToIsSizeWithinFrames", make := .lifted ["publicsums"], apart := false }
def FnCanDecodeToIsSizeWithinFramesSaid : Prop := fnCanDecodeToIsSizeWithinFramesRow.holds Trym.pinned (OpenSpec.ofChange fnCanDecodeToIsSizeWithinFramesSpec)

/-- ITS FALSE NEIGHBOUR: 'it returns false'. Refute it at one input. -/
def fnCanDecodeToIsSizeWithinFramesWrong : ChangeSpec := { name := "fnCanDecodeToIsSizeWithinFrames", fn := fun _ => fun
  | [d1, d2] => { results := [.lit (.bool false)], args := [d1, d2] }
  | _ => none }
def FnCanDecodeToIsSizeWithinFramesWrongFalsely : Prop := fnCanDecodeToIsSizeWithinFramesRow.holds Trym.pinned (OpenSpec.ofChange fnCanDecodeToIsSizeWithinFramesWrong)

/-- 'zzlaws_pkg_repo_b1.FnCanDecodeToThresholdIsExact': WHATEVER THE INPUT: true; the input reads as it did. -/
def fnCanDecodeToThresholdIsExactSpec : ChangeSpec := { name := "fnCanDecodeToThresholdIsExact", fn := fun _ => fun
  | [d] => { results := [.lit (.bool true)], args := [d] }
  | _ => none }
def fnCanDecodeToThresholdIsExactRow : OpenClaim := { program := "qxb6605698amods", sum := "ba8810715d12d380750f89bc60ca5d64412159c40e55a56a2b4207e95c853400", func := "example.com/tidemark/tidemark/zzlaws_pkg_repo_b1.FnCanDecodeToThresholdIsExact", spec := "fnCanDecodeToThresholdIsExact", make := .lifted ["publicsums"], apart := false }
def FnCanDecodeToThresholdIsExactSaid : Prop := fnCanDecodeToThresholdIsExactRow.holds Trym.pinned (OpenSpec.ofChange fnCanDecodeToThresholdIsExactSpec)

/-- ITS FALSE NEIGHBOUR: 'it returns false'. Refute it at one input. -/
def fnCanDecodeToThresholdIsExactWrong : ChangeSpec := { name := "fnCanDecodeToThresholdIsExact", fn := fun _ => fun
  | [d] => { results := [.lit (.bool false)], args := [d] }
  | _ => none }
def FnCanDecodeToThresholdIsExactWrongFalsely : Prop := fnCanDecodeToThresholdIsExactRow.holds Trym.pinned (OpenSpec.ofChange fnCanDecodeToThresholdIsExactWrong)

/-- 'zzlaws_pkg_repo_b1.FnFindMetaIsLinearSearch': WHATEVER THE INPUT: true; the input reads as it did. -/
def fnFindMetaIsLinearSearchSpec : ChangeSpec := { name := "fnFindMetaIsLinearSearch", fn := fun _ => fun
  | [d1, d2] => { results := [.lit (.bool true)], args := [d1, d2] }
  | _ => none }
def fnFindMetaIsLinearSearchRow : OpenClaim := { program := "qxb6605698amods", sum := "ba8810715d12d380750f89bc60ca5d64412159c40e55a56a2b4207e95c853400", func := "example.com/tidemark/tidemark/zzlaws_pkg_repo_b1.FnFindMetaIsLinearSearch", spec := "fnFindMetaIsLinearSearch", inPlace := ["internal/bytealg.Compare"], unfollowed := true, recurses := true, make := .lifted ["publicsums"], apart := false }
def FnFindMetaIsLinearSearchSaid : Prop := fnFindMetaIsLinearSearchRow.holds Trym.pinned (OpenSpec.ofChange fnFindMetaIsLinearSearchSpec)

/-- ITS FALSE NEIGHBOUR: 'it returns false'. Refute it at one input. -/
def fnFindMetaIsLinearSearchWrong : ChangeSpec := { name := "fnFindMetaIsLinearSearch", fn := fun _ => fun
  | [d1, d2] => { results := [.lit (.bool false)], args := [d1, d2] }
  | _ => none }
def FnFindMetaIsLinearSearchWrongFalsely : Prop := fnFindMetaIsLinearSearchRow.holds Trym.pinned (OpenSpec.ofChange fnFindMetaIsLinearSearchWrong)

/-- 'zzlaws_pkg_repo_b1.FnFindMetaFindsEveryListedFile': WHATEVER THE INPUT: true; the input reads as it did. -/
def fnFindMetaFindsEveryListedFileSpec : ChangeSpec := { name := "fnFindMetaFindsEveryListedFile", fn := fun _ => fun
  | [d] => { results := [.lit (.bool true)], args := [d] }
  | _ => none }
def fnFindMetaFindsEveryListedFileRow : OpenClaim := { program := "qxb6605698amods", sum := "ba8810715d12d380750f89bc60ca5d64412159c40e55a56a2b4207e95c853400", func := "example.com/tidemark/tidemark/zzlaws_pkg_repo_b1.FnFindMetaFindsEveryListedFile", spec := "fnFindMetaFindsEveryListedFile", inPlace := ["internal/bytealg.Compare"], unfollowed := true, recurses := true, make := .lifted ["publicsums"], apart := false }
def FnFindMetaFindsEveryListedFileSaid : Prop := fnFindMetaFindsEveryListedFileRow.holds Trym.pinned (OpenSpec.ofChange fnFindMetaFindsEveryListedFileSpec)

/-- ITS FALSE NEIGHBOUR: 'it returns false'. Refute it at one input. -/
def fnFindMetaFindsEveryListedFileWrong : ChangeSpec := { name := "fnFindMetaFindsEveryListedFile", fn := fun _ => fun
  | [d] => { results := [.lit (.bool false)], args := [d] }
  | _ => none }
def FnFindMetaFindsEveryListedFileWrongFalsely : Prop := fnFindMetaFindsEveryListedFileRow.holds Trym.pinned (OpenSpec.ofChange fnFindMetaFindsEveryListedFileWrong)

end Rows
end Go.Proofs.Qxb6605698aMods
