/-
  No cell of these rows narrows 'for every input' (looked for: loops, veiled, ifaces, maps, wideKeys, modest, calm, conditions, laid).
  DERIVED. THE GIVEN ROWS OF THIS SEAT. 4 by the template 'for every input the law returns true; each argument reads behind the call as it read before'; 0 by the template 'total and deterministic' (their statements: Qxb6601870aModsTotals.lean).
  GIVEN WITH THE SEED: the statements are not yours to turn. If you find one false, say at which input.
  Laid BY PROGRAM, IN A SANDBOX (cutbox-rows.mjs): the forced cells as the released guide's own fill.sh prints them over the translation 5c3cea632c587c25… (all of the seat's roots in one cut). By AI agents, Wed Nov 11 2026. No macro, syntax, notation, axiom, sorry.
-/
import Derived.Test.Qxb6601870aModsChecked
import GoSem.Claim
import GoSem.ClaimJoined
import GoSem.ClaimMapViews
import Derived.JoinedTies
import Derived.KernelRfl
namespace Go.Proofs.Qxb6601870aMods
/- THE CELL 'sum', in the pinned program and in every row, IS THE sha256 OF THE DUMP (.gsa) THAT Qxb6601870aModsProg.lean LOADS. Nothing in Lean hashes anything: it is a label: what it is worth is what the hold of that sum in a sandbox is worth. -/
noncomputable def Trym.pinned : Pinned := { name := "qxb6601870amods", sum := "5c3cea632c587c25870a050c93179f9d061a6c0a2da8b59a77719124050c6d29", checked := Trym.checked }
namespace Rows
def none {H : Type} : Left H := { results := [], args := [] }

/-- 'zzlaws_internal_tun_b1.FnSameStreamIsAnEquivalence': WHATEVER THE INPUT: true; the input reads as it did. -/
def fnSameStreamIsAnEquivalenceSpec : ChangeSpec := { name := "fnSameStreamIsAnEquivalence", fn := fun _ => fun
  | [d1, d2, d3, d4, d5, d6, d7, d8, d9, d10, d11, d12] => { results := [.lit (.bool true)], args := [d1, d2, d3, d4, d5, d6, d7, d8, d9, d10, d11, d12] }
  | _ => none }
def fnSameStreamIsAnEquivalenceRow : OpenClaim := { program := "qxb6601870amods", sum := "5c3cea632c587c25870a050c93179f9d061a6c0a2da8b59a77719124050c6d29", func := "example.com/sealgram/sealgram/zzlaws_internal_tun_b1.FnSameStreamIsAnEquivalence", spec := "fnSameStreamIsAnEquivalence", make := .lifted ["publicsums"], apart := false }
def FnSameStreamIsAnEquivalenceSaid : Prop := fnSameStreamIsAnEquivalenceRow.holds Trym.pinned (OpenSpec.ofChange fnSameStreamIsAnEquivalenceSpec)

/-- ITS FALSE NEIGHBOUR: 'it returns false'. Refute it at one input. -/
def fnSameStreamIsAnEquivalenceWrong : ChangeSpec := { name := "fnSameStreamIsAnEquivalence", fn := fun _ => fun
  | [d1, d2, d3, d4, d5, d6, d7, d8, d9, d10, d11, d12] => { results := [.lit (.bool false)], args := [d1, d2, d3, d4, d5, d6, d7, d8, d9, d10, d11, d12] }
  | _ => none }
def FnSameStreamIsAnEquivalenceWrongFalsely : Prop := fnSameStreamIsAnEquivalenceRow.holds Trym.pinned (OpenSpec.ofChange fnSameStreamIsAnEquivalenceWrong)

/-- 'zzlaws_internal_tun_b1.FnFoldClosedForm': WHATEVER THE INPUT: true; the input reads as it did. -/
def fnFoldClosedFormSpec : ChangeSpec := { name := "fnFoldClosedForm", fn := fun _ => fun
  | [d] => { results := [.lit (.bool true)], args := [d] }
  | _ => none }
def fnFoldClosedFormRow : OpenClaim := { program := "qxb6601870amods", sum := "5c3cea632c587c25870a050c93179f9d061a6c0a2da8b59a77719124050c6d29", func := "example.com/sealgram/sealgram/zzlaws_internal_tun_b1.FnFoldClosedForm", spec := "fnFoldClosedForm", make := .lifted ["publicsums"], apart := false }
def FnFoldClosedFormSaid : Prop := fnFoldClosedFormRow.holds Trym.pinned (OpenSpec.ofChange fnFoldClosedFormSpec)

/-- ITS FALSE NEIGHBOUR: 'it returns false'. Refute it at one input. -/
def fnFoldClosedFormWrong : ChangeSpec := { name := "fnFoldClosedForm", fn := fun _ => fun
  | [d] => { results := [.lit (.bool false)], args := [d] }
  | _ => none }
def FnFoldClosedFormWrongFalsely : Prop := fnFoldClosedFormRow.holds Trym.pinned (OpenSpec.ofChange fnFoldClosedFormWrong)

/-- 'zzlaws_internal_tun_b1.FnFoldIsIdempotentAndKeeps16BitSums': WHATEVER THE INPUT: true; the input reads as it did. -/
def fnFoldIsIdempotentAndKeeps16BitSumsSpec : ChangeSpec := { name := "fnFoldIsIdempotentAndKeeps16BitSums", fn := fun _ => fun
  | [d] => { results := [.lit (.bool true)], args := [d] }
  | _ => none }
def fnFoldIsIdempotentAndKeeps16BitSumsRow : OpenClaim := { program := "qxb6601870amods", sum := "5c3cea632c587c25870a050c93179f9d061a6c0a2da8b59a77719124050c6d29", func := "example.com/sealgram/sealgram/zzlaws_internal_tun_b1.FnFoldIsIdempotentAndKeeps16BitSums", spec := "fnFoldIsIdempotentAndKeeps16BitSums", make := .lifted ["publicsums"], apart := false }
def FnFoldIsIdempotentAndKeeps16BitSumsSaid : Prop := fnFoldIsIdempotentAndKeeps16BitSumsRow.holds Trym.pinned (OpenSpec.ofChange fnFoldIsIdempotentAndKeeps16BitSumsSpec)

/-- ITS FALSE NEIGHBOUR: 'it returns false'. Refute it at one input. -/
def fnFoldIsIdempotentAndKeeps16BitSumsWrong : ChangeSpec := { name := "fnFoldIsIdempotentAndKeeps16BitSums", fn := fun _ => fun
  | [d] => { results := [.lit (.bool false)], args := [d] }
  | _ => none }
def FnFoldIsIdempotentAndKeeps16BitSumsWrongFalsely : Prop := fnFoldIsIdempotentAndKeeps16BitSumsRow.holds Trym.pinned (OpenSpec.ofChange fnFoldIsIdempotentAndKeeps16BitSumsWrong)

/-- 'zzlaws_internal_tun_b1.FnFoldMergesPartialSums': WHATEVER THE INPUT: true; the input reads as it did. -/
def fnFoldMergesPartialSumsSpec : ChangeSpec := { name := "fnFoldMergesPartialSums", fn := fun _ => fun
  | [d1, d2] => { results := [.lit (.bool true)], args := [d1, d2] }
  | _ => none }
def fnFoldMergesPartialSumsRow : OpenClaim := { program := "qxb6601870amods", sum := "5c3cea632c587c25870a050c93179f9d061a6c0a2da8b59a77719124050c6d29", func := "example.com/sealgram/sealgram/zzlaws_internal_tun_b1.FnFoldMergesPartialSums", spec := "fnFoldMergesPartialSums", make := .lifted ["publicsums"], apart := false }
def FnFoldMergesPartialSumsSaid : Prop := fnFoldMergesPartialSumsRow.holds Trym.pinned (OpenSpec.ofChange fnFoldMergesPartialSumsSpec)

/-- ITS FALSE NEIGHBOUR: 'it returns false'. Refute it at one input. -/
def fnFoldMergesPartialSumsWrong : ChangeSpec := { name := "fnFoldMergesPartialSums", fn := fun _ => fun
  | [d1, d2] => { results := [.lit (.bool false)], args := [d1, d2] }
  | _ => none }
def FnFoldMergesPartialSumsWrongFalsely : Prop := fnFoldMergesPartialSumsRow.holds Trym.pinned (OpenSpec.ofChange fnFoldMergesPartialSumsWrong)

end Rows
end Go.Proofs.Qxb6601870aMods
