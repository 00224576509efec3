/-
  No cell of these rows narrows 'for every input' (looked for: loops, veiled, ifaces, maps, wideKeys, modest, calm, conditions, laid).
  DERIVED. THE GIVEN ROWS OF THIS SEAT. 5 by the template 'for every input the law returns true; each argument reads behind the call as it read before'; 0 by the template 'total and deterministic' (their statements: Qxb6601926aModsTotals.lean).
  GIVEN WITH THE SEED: the statements are not yours to turn. If you find one false, say at which input.
  Laid BY PROGRAM, IN A SANDBOX (cutbox-rows.mjs): the forced cells as the released guide's own fill.sh prints them over the translation 596b01c70d331c5e… (all of the seat's roots in one cut). By AI agents, Wed Nov 11 2026. No macro, syntax, notation, axiom, sorry.
-/
import Derived.Test.Qxb6601926aModsChecked
import GoSem.Claim
import GoSem.ClaimJoined
import GoSem.ClaimMapViews
import Derived.JoinedTies
import Derived.KernelRfl
namespace Go.Proofs.Qxb6601926aMods
/- THE CELL 'sum', in the pinned program and in every row, IS THE sha256 OF THE DUMP (.gsa) THAT Qxb6601926aModsProg.lean LOADS. Nothing in Lean hashes anything: it is a label: what it is worth is what the hold of that sum in a sandbox is worth. -/
noncomputable def Trym.pinned : Pinned := { name := "qxb6601926amods", sum := "596b01c70d331c5ef4e7b03cebfeb37076d03cddeff1b62ca9452ba6a3d327e0", checked := Trym.checked }
namespace Rows
def none {H : Type} : Left H := { results := [], args := [] }

/-- 'zzlaws_internal_sim_b1.FnSharesMoveMirrorsFleet': WHATEVER THE INPUT: true; the input reads as it did. -/
def fnSharesMoveMirrorsFleetSpec : ChangeSpec := { name := "fnSharesMoveMirrorsFleet", fn := fun _ => fun
  | [d1, d2, d3, d4, d5, d6] => { results := [.lit (.bool true)], args := [d1, d2, d3, d4, d5, d6] }
  | _ => none }
def fnSharesMoveMirrorsFleetRow : OpenClaim := { program := "qxb6601926amods", sum := "596b01c70d331c5ef4e7b03cebfeb37076d03cddeff1b62ca9452ba6a3d327e0", func := "example.com/near-quota/near-quota/zzlaws_internal_sim_b1.FnSharesMoveMirrorsFleet", spec := "fnSharesMoveMirrorsFleet", make := .lifted ["publicsums"], apart := false }
def FnSharesMoveMirrorsFleetSaid : Prop := fnSharesMoveMirrorsFleetRow.holds Trym.pinned (OpenSpec.ofChange fnSharesMoveMirrorsFleetSpec)

/-- ITS FALSE NEIGHBOUR: 'it returns false'. Refute it at one input. -/
def fnSharesMoveMirrorsFleetWrong : ChangeSpec := { name := "fnSharesMoveMirrorsFleet", fn := fun _ => fun
  | [d1, d2, d3, d4, d5, d6] => { results := [.lit (.bool false)], args := [d1, d2, d3, d4, d5, d6] }
  | _ => none }
def FnSharesMoveMirrorsFleetWrongFalsely : Prop := fnSharesMoveMirrorsFleetRow.holds Trym.pinned (OpenSpec.ofChange fnSharesMoveMirrorsFleetWrong)

/-- 'zzlaws_internal_sim_b1.FnSpreadStillUntilKeepsShares': WHATEVER THE INPUT: true; the input reads as it did. -/
def fnSpreadStillUntilKeepsSharesSpec : ChangeSpec := { name := "fnSpreadStillUntilKeepsShares", fn := fun _ => fun
  | [d1, d2, d3, d4, d5, d6, d7, d8] => { results := [.lit (.bool true)], args := [d1, d2, d3, d4, d5, d6, d7, d8] }
  | _ => none }
def fnSpreadStillUntilKeepsSharesRow : OpenClaim := { program := "qxb6601926amods", sum := "596b01c70d331c5ef4e7b03cebfeb37076d03cddeff1b62ca9452ba6a3d327e0", func := "example.com/near-quota/near-quota/zzlaws_internal_sim_b1.FnSpreadStillUntilKeepsShares", spec := "fnSpreadStillUntilKeepsShares", make := .lifted ["publicsums"], apart := false }
def FnSpreadStillUntilKeepsSharesSaid : Prop := fnSpreadStillUntilKeepsSharesRow.holds Trym.pinned (OpenSpec.ofChange fnSpreadStillUntilKeepsSharesSpec)

/-- ITS FALSE NEIGHBOUR: 'it returns false'. Refute it at one input. -/
def fnSpreadStillUntilKeepsSharesWrong : ChangeSpec := { name := "fnSpreadStillUntilKeepsShares", fn := fun _ => fun
  | [d1, d2, d3, d4, d5, d6, d7, d8] => { results := [.lit (.bool false)], args := [d1, d2, d3, d4, d5, d6, d7, d8] }
  | _ => none }
def FnSpreadStillUntilKeepsSharesWrongFalsely : Prop := fnSpreadStillUntilKeepsSharesRow.holds Trym.pinned (OpenSpec.ofChange fnSpreadStillUntilKeepsSharesWrong)

/-- 'zzlaws_internal_sim_b1.FnSpreadStillUntilStopsAtMoveInside': WHATEVER THE INPUT: true; the input reads as it did. -/
def fnSpreadStillUntilStopsAtMoveInsideSpec : ChangeSpec := { name := "fnSpreadStillUntilStopsAtMoveInside", fn := fun _ => fun
  | [d1, d2, d3] => { results := [.lit (.bool true)], args := [d1, d2, d3] }
  | _ => none }
def fnSpreadStillUntilStopsAtMoveInsideRow : OpenClaim := { program := "qxb6601926amods", sum := "596b01c70d331c5ef4e7b03cebfeb37076d03cddeff1b62ca9452ba6a3d327e0", func := "example.com/near-quota/near-quota/zzlaws_internal_sim_b1.FnSpreadStillUntilStopsAtMoveInside", spec := "fnSpreadStillUntilStopsAtMoveInside", make := .lifted ["publicsums"], apart := false }
def FnSpreadStillUntilStopsAtMoveInsideSaid : Prop := fnSpreadStillUntilStopsAtMoveInsideRow.holds Trym.pinned (OpenSpec.ofChange fnSpreadStillUntilStopsAtMoveInsideSpec)

/-- ITS FALSE NEIGHBOUR: 'it returns false'. Refute it at one input. -/
def fnSpreadStillUntilStopsAtMoveInsideWrong : ChangeSpec := { name := "fnSpreadStillUntilStopsAtMoveInside", fn := fun _ => fun
  | [d1, d2, d3] => { results := [.lit (.bool false)], args := [d1, d2, d3] }
  | _ => none }
def FnSpreadStillUntilStopsAtMoveInsideWrongFalsely : Prop := fnSpreadStillUntilStopsAtMoveInsideRow.holds Trym.pinned (OpenSpec.ofChange fnSpreadStillUntilStopsAtMoveInsideWrong)

/-- 'zzlaws_internal_sim_b1.FnScenarioStillUntilIsEarliestChange': WHATEVER THE INPUT: true; the input reads as it did. -/
def fnScenarioStillUntilIsEarliestChangeSpec : ChangeSpec := { name := "fnScenarioStillUntilIsEarliestChange", fn := fun _ => fun
  | [d1, d2, d3, d4, d5] => { results := [.lit (.bool true)], args := [d1, d2, d3, d4, d5] }
  | _ => none }
def fnScenarioStillUntilIsEarliestChangeRow : OpenClaim := { program := "qxb6601926amods", sum := "596b01c70d331c5ef4e7b03cebfeb37076d03cddeff1b62ca9452ba6a3d327e0", func := "example.com/near-quota/near-quota/zzlaws_internal_sim_b1.FnScenarioStillUntilIsEarliestChange", spec := "fnScenarioStillUntilIsEarliestChange", make := .lifted ["publicsums"], apart := false }
def FnScenarioStillUntilIsEarliestChangeSaid : Prop := fnScenarioStillUntilIsEarliestChangeRow.holds Trym.pinned (OpenSpec.ofChange fnScenarioStillUntilIsEarliestChangeSpec)

/-- ITS FALSE NEIGHBOUR: 'it returns false'. Refute it at one input. -/
def fnScenarioStillUntilIsEarliestChangeWrong : ChangeSpec := { name := "fnScenarioStillUntilIsEarliestChange", fn := fun _ => fun
  | [d1, d2, d3, d4, d5] => { results := [.lit (.bool false)], args := [d1, d2, d3, d4, d5] }
  | _ => none }
def FnScenarioStillUntilIsEarliestChangeWrongFalsely : Prop := fnScenarioStillUntilIsEarliestChangeRow.holds Trym.pinned (OpenSpec.ofChange fnScenarioStillUntilIsEarliestChangeWrong)

/-- 'zzlaws_internal_sim_b1.FnScenarioStillUntilSettlesWithinSpread': WHATEVER THE INPUT: true; the input reads as it did. -/
def fnScenarioStillUntilSettlesWithinSpreadSpec : ChangeSpec := { name := "fnScenarioStillUntilSettlesWithinSpread", fn := fun _ => fun
  | [d1, d2, d3, d4, d5] => { results := [.lit (.bool true)], args := [d1, d2, d3, d4, d5] }
  | _ => none }
def fnScenarioStillUntilSettlesWithinSpreadRow : OpenClaim := { program := "qxb6601926amods", sum := "596b01c70d331c5ef4e7b03cebfeb37076d03cddeff1b62ca9452ba6a3d327e0", func := "example.com/near-quota/near-quota/zzlaws_internal_sim_b1.FnScenarioStillUntilSettlesWithinSpread", spec := "fnScenarioStillUntilSettlesWithinSpread", make := .lifted ["publicsums"], apart := false }
def FnScenarioStillUntilSettlesWithinSpreadSaid : Prop := fnScenarioStillUntilSettlesWithinSpreadRow.holds Trym.pinned (OpenSpec.ofChange fnScenarioStillUntilSettlesWithinSpreadSpec)

/-- ITS FALSE NEIGHBOUR: 'it returns false'. Refute it at one input. -/
def fnScenarioStillUntilSettlesWithinSpreadWrong : ChangeSpec := { name := "fnScenarioStillUntilSettlesWithinSpread", fn := fun _ => fun
  | [d1, d2, d3, d4, d5] => { results := [.lit (.bool false)], args := [d1, d2, d3, d4, d5] }
  | _ => none }
def FnScenarioStillUntilSettlesWithinSpreadWrongFalsely : Prop := fnScenarioStillUntilSettlesWithinSpreadRow.holds Trym.pinned (OpenSpec.ofChange fnScenarioStillUntilSettlesWithinSpreadWrong)

end Rows
end Go.Proofs.Qxb6601926aMods
