/-
  No cell of these rows narrows 'for every input' (looked for: loops, veiled, ifaces, maps, wideKeys, modest, calm, conditions, laid).
  DERIVED. THE GIVEN ROWS OF THIS SEAT. 3 by the template 'for every input the law returns true; each argument reads behind the call as it read before'; 0 by the template 'total and deterministic' (their statements: Qxb6604064aModsTotals.lean).
  GIVEN WITH THE SEED: the statements are not yours to turn. If you find one false, say at which input.
  Laid BY PROGRAM, IN A SANDBOX (cutbox-rows.mjs): the forced cells as the released guide's own fill.sh prints them over the translation f137a16c951fff7c… (all of the seat's roots in one cut). By AI agents, Wed Nov 11 2026. No macro, syntax, notation, axiom, sorry.
-/
import Derived.Test.Qxb6604064aModsChecked
import GoSem.Claim
import GoSem.ClaimJoined
import GoSem.ClaimMapViews
import Derived.JoinedTies
import Derived.KernelRfl
namespace Go.Proofs.Qxb6604064aMods
/- THE CELL 'sum', in the pinned program and in every row, IS THE sha256 OF THE DUMP (.gsa) THAT Qxb6604064aModsProg.lean LOADS. Nothing in Lean hashes anything: it is a label: what it is worth is what the hold of that sum in a sandbox is worth. -/
noncomputable def Trym.pinned : Pinned := { name := "qxb6604064amods", sum := "f137a16c951fff7c9e4d455c31fc6d459a9566317b7c19cf3905901eea5d252a", checked := Trym.checked }
namespace Rows
def none {H : Type} : Left H := { results := [], args := [] }

/-- 'zzlaws_pkg_scheduler_b1.FnFeasibleToFindWithinNodes': WHATEVER THE INPUT: true; the input reads as it did. -/
def fnFeasibleToFindWithinNodesSpec : ChangeSpec := { name := "fnFeasibleToFindWithinNodes", fn := fun _ => fun
  | [d1, d2] => { results := [.lit (.bool true)], args := [d1, d2] }
  | _ => none }
def fnFeasibleToFindWithinNodesRow : OpenClaim := { program := "qxb6604064amods", sum := "f137a16c951fff7c9e4d455c31fc6d459a9566317b7c19cf3905901eea5d252a", func := "example.com/berth/berth/zzlaws_pkg_scheduler_b1.FnFeasibleToFindWithinNodes", spec := "fnFeasibleToFindWithinNodes", make := .lifted ["publicsums"], apart := false }
def FnFeasibleToFindWithinNodesSaid : Prop := fnFeasibleToFindWithinNodesRow.holds Trym.pinned (OpenSpec.ofChange fnFeasibleToFindWithinNodesSpec)

/-- ITS FALSE NEIGHBOUR: 'it returns false'. Refute it at one input. -/
def fnFeasibleToFindWithinNodesWrong : ChangeSpec := { name := "fnFeasibleToFindWithinNodes", fn := fun _ => fun
  | [d1, d2] => { results := [.lit (.bool false)], args := [d1, d2] }
  | _ => none }
def FnFeasibleToFindWithinNodesWrongFalsely : Prop := fnFeasibleToFindWithinNodesRow.holds Trym.pinned (OpenSpec.ofChange fnFeasibleToFindWithinNodesWrong)

/-- 'zzlaws_pkg_scheduler_b1.FnScaleToHighestScaleFree': WHATEVER THE INPUT: true; the input reads as it did. -/
def fnScaleToHighestScaleFreeSpec : ChangeSpec := { name := "fnScaleToHighestScaleFree", fn := fun _ => fun
  | [d1, d2] => { results := [.lit (.bool true)], args := [d1, d2] }
  | _ => none }
def fnScaleToHighestScaleFreeRow : OpenClaim := { program := "qxb6604064amods", sum := "f137a16c951fff7c9e4d455c31fc6d459a9566317b7c19cf3905901eea5d252a", func := "example.com/berth/berth/zzlaws_pkg_scheduler_b1.FnScaleToHighestScaleFree", spec := "fnScaleToHighestScaleFree", make := .lifted ["publicsums"], apart := false }
def FnScaleToHighestScaleFreeSaid : Prop := fnScaleToHighestScaleFreeRow.holds Trym.pinned (OpenSpec.ofChange fnScaleToHighestScaleFreeSpec)

/-- ITS FALSE NEIGHBOUR: 'it returns false'. Refute it at one input. -/
def fnScaleToHighestScaleFreeWrong : ChangeSpec := { name := "fnScaleToHighestScaleFree", fn := fun _ => fun
  | [d1, d2] => { results := [.lit (.bool false)], args := [d1, d2] }
  | _ => none }
def FnScaleToHighestScaleFreeWrongFalsely : Prop := fnScaleToHighestScaleFreeRow.holds Trym.pinned (OpenSpec.ofChange fnScaleToHighestScaleFreeWrong)

/-- 'zzlaws_pkg_scheduler_b1.FnUsedFractionMonotone': WHATEVER THE INPUT: true; the input reads as it did. -/
def fnUsedFractionMonotoneSpec : ChangeSpec := { name := "fnUsedFractionMonotone", fn := fun _ => fun
  | [d1, d2, d3, d4] => { results := [.lit (.bool true)], args := [d1, d2, d3, d4] }
  | _ => none }
def fnUsedFractionMonotoneRow : OpenClaim := { program := "qxb6604064amods", sum := "f137a16c951fff7c9e4d455c31fc6d459a9566317b7c19cf3905901eea5d252a", func := "example.com/berth/berth/zzlaws_pkg_scheduler_b1.FnUsedFractionMonotone", spec := "fnUsedFractionMonotone", make := .lifted ["publicsums"], apart := false }
def FnUsedFractionMonotoneSaid : Prop := fnUsedFractionMonotoneRow.holds Trym.pinned (OpenSpec.ofChange fnUsedFractionMonotoneSpec)

/-- ITS FALSE NEIGHBOUR: 'it returns false'. Refute it at one input. -/
def fnUsedFractionMonotoneWrong : ChangeSpec := { name := "fnUsedFractionMonotone", fn := fun _ => fun
  | [d1, d2, d3, d4] => { results := [.lit (.bool false)], args := [d1, d2, d3, d4] }
  | _ => none }
def FnUsedFractionMonotoneWrongFalsely : Prop := fnUsedFractionMonotoneRow.holds Trym.pinned (OpenSpec.ofChange fnUsedFractionMonotoneWrong)

end Rows
end Go.Proofs.Qxb6604064aMods
