/-
  No cell of these rows narrows 'for every input' (looked for: loops, veiled, ifaces, maps, wideKeys, modest, calm, conditions, laid).
  DERIVED. THE GIVEN ROWS OF THIS SEAT. 3 by the template 'for every input the law returns true; each argument reads behind the call as it read before'; 0 by the template 'total and deterministic' (their statements: Qxb6605221aModsTotals.lean).
  GIVEN WITH THE SEED: the statements are not yours to turn. If you find one false, say at which input.
  Laid BY PROGRAM, IN A SANDBOX (cutbox-rows.mjs): the forced cells as the released guide's own fill.sh prints them over the translation 0b96ce61d7898eb4… (all of the seat's roots in one cut). By AI agents, Wed Nov 11 2026. No macro, syntax, notation, axiom, sorry.
-/
import Derived.Test.Qxb6605221aModsChecked
import GoSem.Claim
import GoSem.ClaimJoined
import GoSem.ClaimMapViews
import Derived.JoinedTies
import Derived.KernelRfl
namespace Go.Proofs.Qxb6605221aMods
/- THE CELL 'sum', in the pinned program and in every row, IS THE sha256 OF THE DUMP (.gsa) THAT Qxb6605221aModsProg.lean LOADS. Nothing in Lean hashes anything: it is a label: what it is worth is what the hold of that sum in a sandbox is worth. -/
noncomputable def Trym.pinned : Pinned := { name := "qxb6605221amods", sum := "0b96ce61d7898eb4a79968d65c42acdec4dcfb1a9027247e5ccfcb84d17c370a", checked := Trym.checked }
namespace Rows
def none {H : Type} : Left H := { results := [], args := [] }

/-- 'zzlaws_placement_b1.FnBelowIsNodesWithSmallerPlace': WHATEVER THE INPUT: true; the input reads as it did. -/
def fnBelowIsNodesWithSmallerPlaceSpec : ChangeSpec := { name := "fnBelowIsNodesWithSmallerPlace", fn := fun _ => fun
  | [d1, d2, d3, d4] => { results := [.lit (.bool true)], args := [d1, d2, d3, d4] }
  | _ => none }
def fnBelowIsNodesWithSmallerPlaceRow : OpenClaim := { program := "qxb6605221amods", sum := "0b96ce61d7898eb4a79968d65c42acdec4dcfb1a9027247e5ccfcb84d17c370a", func := "example.com/tiergang/tiergang/zzlaws_placement_b1.FnBelowIsNodesWithSmallerPlace", spec := "fnBelowIsNodesWithSmallerPlace", make := .lifted ["publicsums"], apart := false }
def FnBelowIsNodesWithSmallerPlaceSaid : Prop := fnBelowIsNodesWithSmallerPlaceRow.holds Trym.pinned (OpenSpec.ofChange fnBelowIsNodesWithSmallerPlaceSpec)

/-- ITS FALSE NEIGHBOUR: 'it returns false'. Refute it at one input. -/
def fnBelowIsNodesWithSmallerPlaceWrong : ChangeSpec := { name := "fnBelowIsNodesWithSmallerPlace", fn := fun _ => fun
  | [d1, d2, d3, d4] => { results := [.lit (.bool false)], args := [d1, d2, d3, d4] }
  | _ => none }
def FnBelowIsNodesWithSmallerPlaceWrongFalsely : Prop := fnBelowIsNodesWithSmallerPlaceRow.holds Trym.pinned (OpenSpec.ofChange fnBelowIsNodesWithSmallerPlaceWrong)

/-- 'zzlaws_placement_b1.FnBelowStepAddsNodesAtPlace': WHATEVER THE INPUT: true; the input reads as it did. -/
def fnBelowStepAddsNodesAtPlaceSpec : ChangeSpec := { name := "fnBelowStepAddsNodesAtPlace", fn := fun _ => fun
  | [d1, d2, d3, d4] => { results := [.lit (.bool true)], args := [d1, d2, d3, d4] }
  | _ => none }
def fnBelowStepAddsNodesAtPlaceRow : OpenClaim := { program := "qxb6605221amods", sum := "0b96ce61d7898eb4a79968d65c42acdec4dcfb1a9027247e5ccfcb84d17c370a", func := "example.com/tiergang/tiergang/zzlaws_placement_b1.FnBelowStepAddsNodesAtPlace", spec := "fnBelowStepAddsNodesAtPlace", make := .lifted ["publicsums"], apart := false }
def FnBelowStepAddsNodesAtPlaceSaid : Prop := fnBelowStepAddsNodesAtPlaceRow.holds Trym.pinned (OpenSpec.ofChange fnBelowStepAddsNodesAtPlaceSpec)

/-- ITS FALSE NEIGHBOUR: 'it returns false'. Refute it at one input. -/
def fnBelowStepAddsNodesAtPlaceWrong : ChangeSpec := { name := "fnBelowStepAddsNodesAtPlace", fn := fun _ => fun
  | [d1, d2, d3, d4] => { results := [.lit (.bool false)], args := [d1, d2, d3, d4] }
  | _ => none }
def FnBelowStepAddsNodesAtPlaceWrongFalsely : Prop := fnBelowStepAddsNodesAtPlaceRow.holds Trym.pinned (OpenSpec.ofChange fnBelowStepAddsNodesAtPlaceWrong)

/-- 'zzlaws_placement_b1.FnCutRowsRecutReusesRoomAndClears': WHATEVER THE INPUT: true; the input reads as it did. -/
def fnCutRowsRecutReusesRoomAndClearsSpec : ChangeSpec := { name := "fnCutRowsRecutReusesRoomAndClears", fn := fun _ => fun
  | [d1, d2, d3, d4] => { results := [.lit (.bool true)], args := [d1, d2, d3, d4] }
  | _ => none }
def fnCutRowsRecutReusesRoomAndClearsRow : OpenClaim := { program := "qxb6605221amods", sum := "0b96ce61d7898eb4a79968d65c42acdec4dcfb1a9027247e5ccfcb84d17c370a", func := "example.com/tiergang/tiergang/zzlaws_placement_b1.FnCutRowsRecutReusesRoomAndClears", spec := "fnCutRowsRecutReusesRoomAndClears", make := .lifted ["publicsums"], apart := false }
def FnCutRowsRecutReusesRoomAndClearsSaid : Prop := fnCutRowsRecutReusesRoomAndClearsRow.holds Trym.pinned (OpenSpec.ofChange fnCutRowsRecutReusesRoomAndClearsSpec)

/-- ITS FALSE NEIGHBOUR: 'it returns false'. Refute it at one input. -/
def fnCutRowsRecutReusesRoomAndClearsWrong : ChangeSpec := { name := "fnCutRowsRecutReusesRoomAndClears", fn := fun _ => fun
  | [d1, d2, d3, d4] => { results := [.lit (.bool false)], args := [d1, d2, d3, d4] }
  | _ => none }
def FnCutRowsRecutReusesRoomAndClearsWrongFalsely : Prop := fnCutRowsRecutReusesRoomAndClearsRow.holds Trym.pinned (OpenSpec.ofChange fnCutRowsRecutReusesRoomAndClearsWrong)

end Rows
end Go.Proofs.Qxb6605221aMods
