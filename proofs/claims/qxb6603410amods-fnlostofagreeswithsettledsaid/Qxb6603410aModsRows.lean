/-
  No cell of these rows narrows 'for every input' (looked for: loops, veiled, ifaces, maps, wideKeys, modest, calm, conditions, laid).
  DERIVED. THE GIVEN ROWS OF THIS SEAT. 7 by the template 'for every input the law returns true; each argument reads behind the call as it read before'; 0 by the template 'total and deterministic' (their statements: Qxb6603410aModsTotals.lean).
  GIVEN WITH THE SEED: the statements are not yours to turn. If you find one false, say at which input.
  Laid BY PROGRAM, IN A SANDBOX (cutbox-rows.mjs): the forced cells as the released guide's own fill.sh prints them over the translation c347f30069e117c2… (all of the seat's roots in one cut). By AI agents, Wed Nov 11 2026. No macro, syntax, notation, axiom, sorry.
-/
import Derived.Test.Qxb6603410aModsChecked
import GoSem.Claim
import GoSem.ClaimJoined
import GoSem.ClaimMapViews
import Derived.JoinedTies
import Derived.KernelRfl
namespace Go.Proofs.Qxb6603410aMods
/- THE CELL 'sum', in the pinned program and in every row, IS THE sha256 OF THE DUMP (.gsa) THAT Qxb6603410aModsProg.lean LOADS. Nothing in Lean hashes anything: it is a label: what it is worth is what the hold of that sum in a sandbox is worth. -/
noncomputable def Trym.pinned : Pinned := { name := "qxb6603410amods", sum := "c347f30069e117c2a3918f99ef47f23cc7f16d8e76ae4c41c404e5666589281f", checked := Trym.checked }
namespace Rows
def none {H : Type} : Left H := { results := [], args := [] }

/-- 'zzlaws_internal_coordinator_b1.FnSettledStatusIdempotent': WHATEVER THE INPUT: true; the input reads as it did. -/
def fnSettledStatusIdempotentSpec : ChangeSpec := { name := "fnSettledStatusIdempotent", fn := fun _ => fun
  | [d1, d2] => { results := [.lit (.bool true)], args := [d1, d2] }
  | _ => none }
def fnSettledStatusIdempotentRow : OpenClaim := { program := "qxb6603410amods", sum := "c347f30069e117c2a3918f99ef47f23cc7f16d8e76ae4c41c404e5666589281f", func := "example.com/holdfast/holdfast/zzlaws_internal_coordinator_b1.FnSettledStatusIdempotent", spec := "fnSettledStatusIdempotent", make := .lifted ["publicsums"], apart := false }
def FnSettledStatusIdempotentSaid : Prop := fnSettledStatusIdempotentRow.holds Trym.pinned (OpenSpec.ofChange fnSettledStatusIdempotentSpec)

/-- ITS FALSE NEIGHBOUR: 'it returns false'. Refute it at one input. -/
def fnSettledStatusIdempotentWrong : ChangeSpec := { name := "fnSettledStatusIdempotent", fn := fun _ => fun
  | [d1, d2] => { results := [.lit (.bool false)], args := [d1, d2] }
  | _ => none }
def FnSettledStatusIdempotentWrongFalsely : Prop := fnSettledStatusIdempotentRow.holds Trym.pinned (OpenSpec.ofChange fnSettledStatusIdempotentWrong)

/-- 'zzlaws_internal_coordinator_b1.FnSettledStatusOrderFree': WHATEVER THE INPUT: true; the input reads as it did. -/
def fnSettledStatusOrderFreeSpec : ChangeSpec := { name := "fnSettledStatusOrderFree", fn := fun _ => fun
  | [d1, d2] => { results := [.lit (.bool true)], args := [d1, d2] }
  | _ => none }
def fnSettledStatusOrderFreeRow : OpenClaim := { program := "qxb6603410amods", sum := "c347f30069e117c2a3918f99ef47f23cc7f16d8e76ae4c41c404e5666589281f", func := "example.com/holdfast/holdfast/zzlaws_internal_coordinator_b1.FnSettledStatusOrderFree", spec := "fnSettledStatusOrderFree", make := .lifted ["publicsums"], apart := false }
def FnSettledStatusOrderFreeSaid : Prop := fnSettledStatusOrderFreeRow.holds Trym.pinned (OpenSpec.ofChange fnSettledStatusOrderFreeSpec)

/-- ITS FALSE NEIGHBOUR: 'it returns false'. Refute it at one input. -/
def fnSettledStatusOrderFreeWrong : ChangeSpec := { name := "fnSettledStatusOrderFree", fn := fun _ => fun
  | [d1, d2] => { results := [.lit (.bool false)], args := [d1, d2] }
  | _ => none }
def FnSettledStatusOrderFreeWrongFalsely : Prop := fnSettledStatusOrderFreeRow.holds Trym.pinned (OpenSpec.ofChange fnSettledStatusOrderFreeWrong)

/-- 'zzlaws_internal_coordinator_b1.FnLostOfSpec': WHATEVER THE INPUT: true; the input reads as it did. -/
def fnLostOfSpecSpec : ChangeSpec := { name := "fnLostOfSpec", fn := fun _ => fun
  | [d] => { results := [.lit (.bool true)], args := [d] }
  | _ => none }
def fnLostOfSpecRow : OpenClaim := { program := "qxb6603410amods", sum := "c347f30069e117c2a3918f99ef47f23cc7f16d8e76ae4c41c404e5666589281f", func := "example.com/holdfast/holdfast/zzlaws_internal_coordinator_b1.FnLostOfSpec", spec := "fnLostOfSpec", make := .lifted ["publicsums"], apart := false }
def FnLostOfSpecSaid : Prop := fnLostOfSpecRow.holds Trym.pinned (OpenSpec.ofChange fnLostOfSpecSpec)

/-- ITS FALSE NEIGHBOUR: 'it returns false'. Refute it at one input. -/
def fnLostOfSpecWrong : ChangeSpec := { name := "fnLostOfSpec", fn := fun _ => fun
  | [d] => { results := [.lit (.bool false)], args := [d] }
  | _ => none }
def FnLostOfSpecWrongFalsely : Prop := fnLostOfSpecRow.holds Trym.pinned (OpenSpec.ofChange fnLostOfSpecWrong)

/-- 'zzlaws_internal_coordinator_b1.FnLostOfConcat': WHATEVER THE INPUT: true; the input reads as it did. -/
def fnLostOfConcatSpec : ChangeSpec := { name := "fnLostOfConcat", fn := fun _ => fun
  | [d1, d2] => { results := [.lit (.bool true)], args := [d1, d2] }
  | _ => none }
def fnLostOfConcatRow : OpenClaim := { program := "qxb6603410amods", sum := "c347f30069e117c2a3918f99ef47f23cc7f16d8e76ae4c41c404e5666589281f", func := "example.com/holdfast/holdfast/zzlaws_internal_coordinator_b1.FnLostOfConcat", spec := "fnLostOfConcat", make := .lifted ["publicsums"], apart := false }
def FnLostOfConcatSaid : Prop := fnLostOfConcatRow.holds Trym.pinned (OpenSpec.ofChange fnLostOfConcatSpec)

/-- ITS FALSE NEIGHBOUR: 'it returns false'. Refute it at one input. -/
def fnLostOfConcatWrong : ChangeSpec := { name := "fnLostOfConcat", fn := fun _ => fun
  | [d1, d2] => { results := [.lit (.bool false)], args := [d1, d2] }
  | _ => none }
def FnLostOfConcatWrongFalsely : Prop := fnLostOfConcatRow.holds Trym.pinned (OpenSpec.ofChange fnLostOfConcatWrong)

/-- 'zzlaws_internal_coordinator_b1.FnLostOfAgreesWithSettled': WHATEVER THE INPUT: true; the input reads as it did. -/
def fnLostOfAgreesWithSettledSpec : ChangeSpec := { name := "fnLostOfAgreesWithSettled", fn := fun _ => fun
  | [d] => { results := [.lit (.bool true)], args := [d] }
  | _ => none }
def fnLostOfAgreesWithSettledRow : OpenClaim := { program := "qxb6603410amods", sum := "c347f30069e117c2a3918f99ef47f23cc7f16d8e76ae4c41c404e5666589281f", func := "example.com/holdfast/holdfast/zzlaws_internal_coordinator_b1.FnLostOfAgreesWithSettled", spec := "fnLostOfAgreesWithSettled", make := .lifted ["publicsums"], apart := false }
def FnLostOfAgreesWithSettledSaid : Prop := fnLostOfAgreesWithSettledRow.holds Trym.pinned (OpenSpec.ofChange fnLostOfAgreesWithSettledSpec)

/-- ITS FALSE NEIGHBOUR: 'it returns false'. Refute it at one input. -/
def fnLostOfAgreesWithSettledWrong : ChangeSpec := { name := "fnLostOfAgreesWithSettled", fn := fun _ => fun
  | [d] => { results := [.lit (.bool false)], args := [d] }
  | _ => none }
def FnLostOfAgreesWithSettledWrongFalsely : Prop := fnLostOfAgreesWithSettledRow.holds Trym.pinned (OpenSpec.ofChange fnLostOfAgreesWithSettledWrong)

/-- 'zzlaws_internal_coordinator_b1.FnBranchesOfSpec': WHATEVER THE INPUT: true; the input reads as it did. -/
def fnBranchesOfSpecSpec : ChangeSpec := { name := "fnBranchesOfSpec", fn := fun _ => fun
  | [d1, d2, d3, d4, d5, d6, d7] => { results := [.lit (.bool true)], args := [d1, d2, d3, d4, d5, d6, d7] }
  | _ => none }
def fnBranchesOfSpecRow : OpenClaim := { program := "qxb6603410amods", sum := "c347f30069e117c2a3918f99ef47f23cc7f16d8e76ae4c41c404e5666589281f", func := "example.com/holdfast/holdfast/zzlaws_internal_coordinator_b1.FnBranchesOfSpec", spec := "fnBranchesOfSpec", make := .lifted ["publicsums"], apart := false }
def FnBranchesOfSpecSaid : Prop := fnBranchesOfSpecRow.holds Trym.pinned (OpenSpec.ofChange fnBranchesOfSpecSpec)

/-- ITS FALSE NEIGHBOUR: 'it returns false'. Refute it at one input. -/
def fnBranchesOfSpecWrong : ChangeSpec := { name := "fnBranchesOfSpec", fn := fun _ => fun
  | [d1, d2, d3, d4, d5, d6, d7] => { results := [.lit (.bool false)], args := [d1, d2, d3, d4, d5, d6, d7] }
  | _ => none }
def FnBranchesOfSpecWrongFalsely : Prop := fnBranchesOfSpecRow.holds Trym.pinned (OpenSpec.ofChange fnBranchesOfSpecWrong)

/-- 'zzlaws_internal_coordinator_b1.FnBranchesOfLostAgree': WHATEVER THE INPUT: true; the input reads as it did. -/
def fnBranchesOfLostAgreeSpec : ChangeSpec := { name := "fnBranchesOfLostAgree", fn := fun _ => fun
  | [d1, d2, d3] => { results := [.lit (.bool true)], args := [d1, d2, d3] }
  | _ => none }
def fnBranchesOfLostAgreeRow : OpenClaim := { program := "qxb6603410amods", sum := "c347f30069e117c2a3918f99ef47f23cc7f16d8e76ae4c41c404e5666589281f", func := "example.com/holdfast/holdfast/zzlaws_internal_coordinator_b1.FnBranchesOfLostAgree", spec := "fnBranchesOfLostAgree", make := .lifted ["publicsums"], apart := false }
def FnBranchesOfLostAgreeSaid : Prop := fnBranchesOfLostAgreeRow.holds Trym.pinned (OpenSpec.ofChange fnBranchesOfLostAgreeSpec)

/-- ITS FALSE NEIGHBOUR: 'it returns false'. Refute it at one input. -/
def fnBranchesOfLostAgreeWrong : ChangeSpec := { name := "fnBranchesOfLostAgree", fn := fun _ => fun
  | [d1, d2, d3] => { results := [.lit (.bool false)], args := [d1, d2, d3] }
  | _ => none }
def FnBranchesOfLostAgreeWrongFalsely : Prop := fnBranchesOfLostAgreeRow.holds Trym.pinned (OpenSpec.ofChange fnBranchesOfLostAgreeWrong)

end Rows
end Go.Proofs.Qxb6603410aMods
