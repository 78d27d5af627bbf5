/-
  No cell of these rows narrows 'for every input' (looked for: loops, veiled, ifaces, maps, wideKeys, modest, calm, conditions, laid).
  DERIVED. THE GIVEN ROWS OF THIS SEAT. 5 by the template 'for every input the law returns true; each argument reads behind the call as it read before'; 0 by the template 'total and deterministic' (their statements: Qxb6603339aModsTotals.lean).
  GIVEN WITH THE SEED: the statements are not yours to turn. If you find one false, say at which input.
  Laid BY PROGRAM, IN A SANDBOX (cutbox-rows.mjs): the forced cells as the released guide's own fill.sh prints them over the translation 433e0eb8884ba193… (all of the seat's roots in one cut). By AI agents, Wed Nov 11 2026. No macro, syntax, notation, axiom, sorry.
-/
import Derived.Test.Qxb6603339aModsChecked
import GoSem.Claim
import GoSem.ClaimJoined
import GoSem.ClaimMapViews
import Derived.JoinedTies
import Derived.KernelRfl
namespace Go.Proofs.Qxb6603339aMods
/- THE CELL 'sum', in the pinned program and in every row, IS THE sha256 OF THE DUMP (.gsa) THAT Qxb6603339aModsProg.lean LOADS. Nothing in Lean hashes anything: it is a label: what it is worth is what the hold of that sum in a sandbox is worth. -/
noncomputable def Trym.pinned : Pinned := { name := "qxb6603339amods", sum := "433e0eb8884ba19387aaec74ff2b66af297ae550d353bbc31376a611160deb7f", checked := Trym.checked }
namespace Rows
def none {H : Type} : Left H := { results := [], args := [] }

/-- 'zzlaws_internal_kubernetes_b1.FnEscapeLengthPrefixStable': WHATEVER THE INPUT: true; the input reads as it did. -/
def fnEscapeLengthPrefixStableSpec : ChangeSpec := { name := "fnEscapeLengthPrefixStable", fn := fun _ => fun
  | [d1, d2] => { results := [.lit (.bool true)], args := [d1, d2] }
  | _ => none }
def fnEscapeLengthPrefixStableRow : OpenClaim := { program := "qxb6603339amods", sum := "433e0eb8884ba19387aaec74ff2b66af297ae550d353bbc31376a611160deb7f", func := "example.com/gazetteer/gazetteer/zzlaws_internal_kubernetes_b1.FnEscapeLengthPrefixStable", spec := "fnEscapeLengthPrefixStable", make := .lifted ["publicsums"], apart := false }
def FnEscapeLengthPrefixStableSaid : Prop := fnEscapeLengthPrefixStableRow.holds Trym.pinned (OpenSpec.ofChange fnEscapeLengthPrefixStableSpec)

/-- ITS FALSE NEIGHBOUR: 'it returns false'. Refute it at one input. -/
def fnEscapeLengthPrefixStableWrong : ChangeSpec := { name := "fnEscapeLengthPrefixStable", fn := fun _ => fun
  | [d1, d2] => { results := [.lit (.bool false)], args := [d1, d2] }
  | _ => none }
def FnEscapeLengthPrefixStableWrongFalsely : Prop := fnEscapeLengthPrefixStableRow.holds Trym.pinned (OpenSpec.ofChange fnEscapeLengthPrefixStableWrong)

/-- 'zzlaws_internal_kubernetes_b1.FnEventScanTextMatchesByteMachine': WHATEVER THE INPUT: true; the input reads as it did. -/
def fnEventScanTextMatchesByteMachineSpec : ChangeSpec := { name := "fnEventScanTextMatchesByteMachine", fn := fun _ => fun
  | [d1, d2, d3, d4, d5, d6] => { results := [.lit (.bool true)], args := [d1, d2, d3, d4, d5, d6] }
  | _ => none }
def fnEventScanTextMatchesByteMachineRow : OpenClaim := { program := "qxb6603339amods", sum := "433e0eb8884ba19387aaec74ff2b66af297ae550d353bbc31376a611160deb7f", func := "example.com/gazetteer/gazetteer/zzlaws_internal_kubernetes_b1.FnEventScanTextMatchesByteMachine", spec := "fnEventScanTextMatchesByteMachine", inPlace := ["internal/bytealg.IndexByte"], make := .lifted ["publicsums"], apart := false }
def FnEventScanTextMatchesByteMachineSaid : Prop := fnEventScanTextMatchesByteMachineRow.holds Trym.pinned (OpenSpec.ofChange fnEventScanTextMatchesByteMachineSpec)

/-- ITS FALSE NEIGHBOUR: 'it returns false'. Refute it at one input. -/
def fnEventScanTextMatchesByteMachineWrong : ChangeSpec := { name := "fnEventScanTextMatchesByteMachine", fn := fun _ => fun
  | [d1, d2, d3, d4, d5, d6] => { results := [.lit (.bool false)], args := [d1, d2, d3, d4, d5, d6] }
  | _ => none }
def FnEventScanTextMatchesByteMachineWrongFalsely : Prop := fnEventScanTextMatchesByteMachineRow.holds Trym.pinned (OpenSpec.ofChange fnEventScanTextMatchesByteMachineWrong)

/-- 'zzlaws_internal_kubernetes_b1.FnEventScanTextResumesAcrossChunks': WHATEVER THE INPUT: true; the input reads as it did. -/
def fnEventScanTextResumesAcrossChunksSpec : ChangeSpec := { name := "fnEventScanTextResumesAcrossChunks", fn := fun _ => fun
  | [d1, d2, d3, d4, d5, d6] => { results := [.lit (.bool true)], args := [d1, d2, d3, d4, d5, d6] }
  | _ => none }
def fnEventScanTextResumesAcrossChunksRow : OpenClaim := { program := "qxb6603339amods", sum := "433e0eb8884ba19387aaec74ff2b66af297ae550d353bbc31376a611160deb7f", func := "example.com/gazetteer/gazetteer/zzlaws_internal_kubernetes_b1.FnEventScanTextResumesAcrossChunks", spec := "fnEventScanTextResumesAcrossChunks", inPlace := ["internal/bytealg.IndexByte"], make := .lifted ["publicsums"], apart := false }
def FnEventScanTextResumesAcrossChunksSaid : Prop := fnEventScanTextResumesAcrossChunksRow.holds Trym.pinned (OpenSpec.ofChange fnEventScanTextResumesAcrossChunksSpec)

/-- ITS FALSE NEIGHBOUR: 'it returns false'. Refute it at one input. -/
def fnEventScanTextResumesAcrossChunksWrong : ChangeSpec := { name := "fnEventScanTextResumesAcrossChunks", fn := fun _ => fun
  | [d1, d2, d3, d4, d5, d6] => { results := [.lit (.bool false)], args := [d1, d2, d3, d4, d5, d6] }
  | _ => none }
def FnEventScanTextResumesAcrossChunksWrongFalsely : Prop := fnEventScanTextResumesAcrossChunksRow.holds Trym.pinned (OpenSpec.ofChange fnEventScanTextResumesAcrossChunksWrong)

/-- 'zzlaws_internal_kubernetes_b1.FnServedPortsIsTheTCPSubsequence': WHATEVER THE INPUT: true; the input reads as it did. -/
def fnServedPortsIsTheTCPSubsequenceSpec : ChangeSpec := { name := "fnServedPortsIsTheTCPSubsequence", fn := fun _ => fun
  | [d1, d2, d3, d4, d5, d6, d7, d8] => { results := [.lit (.bool true)], args := [d1, d2, d3, d4, d5, d6, d7, d8] }
  | _ => none }
def fnServedPortsIsTheTCPSubsequenceRow : OpenClaim := { program := "qxb6603339amods", sum := "433e0eb8884ba19387aaec74ff2b66af297ae550d353bbc31376a611160deb7f", func := "example.com/gazetteer/gazetteer/zzlaws_internal_kubernetes_b1.FnServedPortsIsTheTCPSubsequence", spec := "fnServedPortsIsTheTCPSubsequence", make := .lifted ["publicsums"], apart := false }
def FnServedPortsIsTheTCPSubsequenceSaid : Prop := fnServedPortsIsTheTCPSubsequenceRow.holds Trym.pinned (OpenSpec.ofChange fnServedPortsIsTheTCPSubsequenceSpec)

/-- ITS FALSE NEIGHBOUR: 'it returns false'. Refute it at one input. -/
def fnServedPortsIsTheTCPSubsequenceWrong : ChangeSpec := { name := "fnServedPortsIsTheTCPSubsequence", fn := fun _ => fun
  | [d1, d2, d3, d4, d5, d6, d7, d8] => { results := [.lit (.bool false)], args := [d1, d2, d3, d4, d5, d6, d7, d8] }
  | _ => none }
def FnServedPortsIsTheTCPSubsequenceWrongFalsely : Prop := fnServedPortsIsTheTCPSubsequenceRow.holds Trym.pinned (OpenSpec.ofChange fnServedPortsIsTheTCPSubsequenceWrong)

/-- 'zzlaws_internal_kubernetes_b1.FnServedPortsDistributesOverConcatenation': WHATEVER THE INPUT: true; the input reads as it did. -/
def fnServedPortsDistributesOverConcatenationSpec : ChangeSpec := { name := "fnServedPortsDistributesOverConcatenation", fn := fun _ => fun
  | [d1, d2, d3, d4, d5, d6, d7] => { results := [.lit (.bool true)], args := [d1, d2, d3, d4, d5, d6, d7] }
  | _ => none }
def fnServedPortsDistributesOverConcatenationRow : OpenClaim := { program := "qxb6603339amods", sum := "433e0eb8884ba19387aaec74ff2b66af297ae550d353bbc31376a611160deb7f", func := "example.com/gazetteer/gazetteer/zzlaws_internal_kubernetes_b1.FnServedPortsDistributesOverConcatenation", spec := "fnServedPortsDistributesOverConcatenation", make := .lifted ["publicsums"], apart := false }
def FnServedPortsDistributesOverConcatenationSaid : Prop := fnServedPortsDistributesOverConcatenationRow.holds Trym.pinned (OpenSpec.ofChange fnServedPortsDistributesOverConcatenationSpec)

/-- ITS FALSE NEIGHBOUR: 'it returns false'. Refute it at one input. -/
def fnServedPortsDistributesOverConcatenationWrong : ChangeSpec := { name := "fnServedPortsDistributesOverConcatenation", fn := fun _ => fun
  | [d1, d2, d3, d4, d5, d6, d7] => { results := [.lit (.bool false)], args := [d1, d2, d3, d4, d5, d6, d7] }
  | _ => none }
def FnServedPortsDistributesOverConcatenationWrongFalsely : Prop := fnServedPortsDistributesOverConcatenationRow.holds Trym.pinned (OpenSpec.ofChange fnServedPortsDistributesOverConcatenationWrong)

end Rows
end Go.Proofs.Qxb6603339aMods
