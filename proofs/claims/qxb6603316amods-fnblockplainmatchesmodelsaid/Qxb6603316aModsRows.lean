/-
  No cell of these rows narrows 'for every input' (looked for: loops, veiled, ifaces, maps, wideKeys, modest, calm, conditions, laid).
  DERIVED. THE GIVEN ROWS OF THIS SEAT. 7 by the template 'for every input the law returns true; each argument reads behind the call as it read before'; 0 by the template 'total and deterministic' (their statements: Qxb6603316aModsTotals.lean).
  GIVEN WITH THE SEED: the statements are not yours to turn. If you find one false, say at which input.
  Laid BY PROGRAM, IN A SANDBOX (cutbox-rows.mjs): the forced cells as the released guide's own fill.sh prints them over the translation 84f38550ec74422c… (all of the seat's roots in one cut). By AI agents, Wed Nov 11 2026. No macro, syntax, notation, axiom, sorry.
-/
import Derived.Test.Qxb6603316aModsChecked
import GoSem.Claim
import GoSem.ClaimJoined
import GoSem.ClaimMapViews
import Derived.JoinedTies
import Derived.KernelRfl
namespace Go.Proofs.Qxb6603316aMods
/- THE CELL 'sum', in the pinned program and in every row, IS THE sha256 OF THE DUMP (.gsa) THAT Qxb6603316aModsProg.lean LOADS. Nothing in Lean hashes anything: it is a label: what it is worth is what the hold of that sum in a sandbox is worth. -/
noncomputable def Trym.pinned : Pinned := { name := "qxb6603316amods", sum := "84f38550ec74422c7e6bbffcca7b46d0292545bfc8214ce5742df7a42097eb56", checked := Trym.checked }
namespace Rows
def none {H : Type} : Left H := { results := [], args := [] }

/-- 'zzlaws_internal_manifest_b1.FnFlowPlainMatchesModel': WHATEVER THE INPUT: true; the input reads as it did. -/
def fnFlowPlainMatchesModelSpec : ChangeSpec := { name := "fnFlowPlainMatchesModel", fn := fun _ => fun
  | [d1, d2, d3] => { results := [.lit (.bool true)], args := [d1, d2, d3] }
  | _ => none }
def fnFlowPlainMatchesModelRow : OpenClaim := { program := "qxb6603316amods", sum := "84f38550ec74422c7e6bbffcca7b46d0292545bfc8214ce5742df7a42097eb56", func := "example.com/rollcall/rollcall/zzlaws_internal_manifest_b1.FnFlowPlainMatchesModel", spec := "fnFlowPlainMatchesModel", make := .lifted ["publicsums"], apart := false }
def FnFlowPlainMatchesModelSaid : Prop := fnFlowPlainMatchesModelRow.holds Trym.pinned (OpenSpec.ofChange fnFlowPlainMatchesModelSpec)

/-- ITS FALSE NEIGHBOUR: 'it returns false'. Refute it at one input. -/
def fnFlowPlainMatchesModelWrong : ChangeSpec := { name := "fnFlowPlainMatchesModel", fn := fun _ => fun
  | [d1, d2, d3] => { results := [.lit (.bool false)], args := [d1, d2, d3] }
  | _ => none }
def FnFlowPlainMatchesModelWrongFalsely : Prop := fnFlowPlainMatchesModelRow.holds Trym.pinned (OpenSpec.ofChange fnFlowPlainMatchesModelWrong)

/-- 'zzlaws_internal_manifest_b1.FnFlowPlainKeyExactlyWhereValueMeetsColon': WHATEVER THE INPUT: true; the input reads as it did. -/
def fnFlowPlainKeyExactlyWhereValueMeetsColonSpec : ChangeSpec := { name := "fnFlowPlainKeyExactlyWhereValueMeetsColon", fn := fun _ => fun
  | [d1, d2] => { results := [.lit (.bool true)], args := [d1, d2] }
  | _ => none }
def fnFlowPlainKeyExactlyWhereValueMeetsColonRow : OpenClaim := { program := "qxb6603316amods", sum := "84f38550ec74422c7e6bbffcca7b46d0292545bfc8214ce5742df7a42097eb56", func := "example.com/rollcall/rollcall/zzlaws_internal_manifest_b1.FnFlowPlainKeyExactlyWhereValueMeetsColon", spec := "fnFlowPlainKeyExactlyWhereValueMeetsColon", make := .lifted ["publicsums"], apart := false }
def FnFlowPlainKeyExactlyWhereValueMeetsColonSaid : Prop := fnFlowPlainKeyExactlyWhereValueMeetsColonRow.holds Trym.pinned (OpenSpec.ofChange fnFlowPlainKeyExactlyWhereValueMeetsColonSpec)

/-- ITS FALSE NEIGHBOUR: 'it returns false'. Refute it at one input. -/
def fnFlowPlainKeyExactlyWhereValueMeetsColonWrong : ChangeSpec := { name := "fnFlowPlainKeyExactlyWhereValueMeetsColon", fn := fun _ => fun
  | [d1, d2] => { results := [.lit (.bool false)], args := [d1, d2] }
  | _ => none }
def FnFlowPlainKeyExactlyWhereValueMeetsColonWrongFalsely : Prop := fnFlowPlainKeyExactlyWhereValueMeetsColonRow.holds Trym.pinned (OpenSpec.ofChange fnFlowPlainKeyExactlyWhereValueMeetsColonWrong)

/-- 'zzlaws_internal_manifest_b1.FnFlowPlainRereadsItself': WHATEVER THE INPUT: true; the input reads as it did. -/
def fnFlowPlainRereadsItselfSpec : ChangeSpec := { name := "fnFlowPlainRereadsItself", fn := fun _ => fun
  | [d1, d2, d3] => { results := [.lit (.bool true)], args := [d1, d2, d3] }
  | _ => none }
def fnFlowPlainRereadsItselfRow : OpenClaim := { program := "qxb6603316amods", sum := "84f38550ec74422c7e6bbffcca7b46d0292545bfc8214ce5742df7a42097eb56", func := "example.com/rollcall/rollcall/zzlaws_internal_manifest_b1.FnFlowPlainRereadsItself", spec := "fnFlowPlainRereadsItself", make := .lifted ["publicsums"], apart := false }
def FnFlowPlainRereadsItselfSaid : Prop := fnFlowPlainRereadsItselfRow.holds Trym.pinned (OpenSpec.ofChange fnFlowPlainRereadsItselfSpec)

/-- ITS FALSE NEIGHBOUR: 'it returns false'. Refute it at one input. -/
def fnFlowPlainRereadsItselfWrong : ChangeSpec := { name := "fnFlowPlainRereadsItself", fn := fun _ => fun
  | [d1, d2, d3] => { results := [.lit (.bool false)], args := [d1, d2, d3] }
  | _ => none }
def FnFlowPlainRereadsItselfWrongFalsely : Prop := fnFlowPlainRereadsItselfRow.holds Trym.pinned (OpenSpec.ofChange fnFlowPlainRereadsItselfWrong)

/-- 'zzlaws_internal_manifest_b1.FnBlockPlainMatchesModel': WHATEVER THE INPUT: true; the input reads as it did. -/
def fnBlockPlainMatchesModelSpec : ChangeSpec := { name := "fnBlockPlainMatchesModel", fn := fun _ => fun
  | [d1, d2, d3, d4] => { results := [.lit (.bool true)], args := [d1, d2, d3, d4] }
  | _ => none }
def fnBlockPlainMatchesModelRow : OpenClaim := { program := "qxb6603316amods", sum := "84f38550ec74422c7e6bbffcca7b46d0292545bfc8214ce5742df7a42097eb56", func := "example.com/rollcall/rollcall/zzlaws_internal_manifest_b1.FnBlockPlainMatchesModel", spec := "fnBlockPlainMatchesModel", make := .lifted ["publicsums"], apart := false }
def FnBlockPlainMatchesModelSaid : Prop := fnBlockPlainMatchesModelRow.holds Trym.pinned (OpenSpec.ofChange fnBlockPlainMatchesModelSpec)

/-- ITS FALSE NEIGHBOUR: 'it returns false'. Refute it at one input. -/
def fnBlockPlainMatchesModelWrong : ChangeSpec := { name := "fnBlockPlainMatchesModel", fn := fun _ => fun
  | [d1, d2, d3, d4] => { results := [.lit (.bool false)], args := [d1, d2, d3, d4] }
  | _ => none }
def FnBlockPlainMatchesModelWrongFalsely : Prop := fnBlockPlainMatchesModelRow.holds Trym.pinned (OpenSpec.ofChange fnBlockPlainMatchesModelWrong)

/-- 'zzlaws_internal_manifest_b1.FnBlockPlainDeeperColumnTakesAPrefix': WHATEVER THE INPUT: true; the input reads as it did. -/
def fnBlockPlainDeeperColumnTakesAPrefixSpec : ChangeSpec := { name := "fnBlockPlainDeeperColumnTakesAPrefix", fn := fun _ => fun
  | [d1, d2, d3, d4, d5] => { results := [.lit (.bool true)], args := [d1, d2, d3, d4, d5] }
  | _ => none }
def fnBlockPlainDeeperColumnTakesAPrefixRow : OpenClaim := { program := "qxb6603316amods", sum := "84f38550ec74422c7e6bbffcca7b46d0292545bfc8214ce5742df7a42097eb56", func := "example.com/rollcall/rollcall/zzlaws_internal_manifest_b1.FnBlockPlainDeeperColumnTakesAPrefix", spec := "fnBlockPlainDeeperColumnTakesAPrefix", make := .lifted ["publicsums"], apart := false }
def FnBlockPlainDeeperColumnTakesAPrefixSaid : Prop := fnBlockPlainDeeperColumnTakesAPrefixRow.holds Trym.pinned (OpenSpec.ofChange fnBlockPlainDeeperColumnTakesAPrefixSpec)

/-- ITS FALSE NEIGHBOUR: 'it returns false'. Refute it at one input. -/
def fnBlockPlainDeeperColumnTakesAPrefixWrong : ChangeSpec := { name := "fnBlockPlainDeeperColumnTakesAPrefix", fn := fun _ => fun
  | [d1, d2, d3, d4, d5] => { results := [.lit (.bool false)], args := [d1, d2, d3, d4, d5] }
  | _ => none }
def FnBlockPlainDeeperColumnTakesAPrefixWrongFalsely : Prop := fnBlockPlainDeeperColumnTakesAPrefixRow.holds Trym.pinned (OpenSpec.ofChange fnBlockPlainDeeperColumnTakesAPrefixWrong)

/-- 'zzlaws_internal_manifest_b1.FnLiteralMatchesModel': WHATEVER THE INPUT: true; the input reads as it did. -/
def fnLiteralMatchesModelSpec : ChangeSpec := { name := "fnLiteralMatchesModel", fn := fun _ => fun
  | [d1, d2, d3, d4, d5] => { results := [.lit (.bool true)], args := [d1, d2, d3, d4, d5] }
  | _ => none }
def fnLiteralMatchesModelRow : OpenClaim := { program := "qxb6603316amods", sum := "84f38550ec74422c7e6bbffcca7b46d0292545bfc8214ce5742df7a42097eb56", func := "example.com/rollcall/rollcall/zzlaws_internal_manifest_b1.FnLiteralMatchesModel", spec := "fnLiteralMatchesModel", inPlace := ["internal/bytealg.IndexByte"], make := .lifted ["publicsums"], apart := false }
def FnLiteralMatchesModelSaid : Prop := fnLiteralMatchesModelRow.holds Trym.pinned (OpenSpec.ofChange fnLiteralMatchesModelSpec)

/-- ITS FALSE NEIGHBOUR: 'it returns false'. Refute it at one input. -/
def fnLiteralMatchesModelWrong : ChangeSpec := { name := "fnLiteralMatchesModel", fn := fun _ => fun
  | [d1, d2, d3, d4, d5] => { results := [.lit (.bool false)], args := [d1, d2, d3, d4, d5] }
  | _ => none }
def FnLiteralMatchesModelWrongFalsely : Prop := fnLiteralMatchesModelRow.holds Trym.pinned (OpenSpec.ofChange fnLiteralMatchesModelWrong)

/-- 'zzlaws_internal_manifest_b1.FnLiteralChompingHeadersAgree': WHATEVER THE INPUT: true; the input reads as it did. -/
def fnLiteralChompingHeadersAgreeSpec : ChangeSpec := { name := "fnLiteralChompingHeadersAgree", fn := fun _ => fun
  | [d1, d2, d3] => { results := [.lit (.bool true)], args := [d1, d2, d3] }
  | _ => none }
def fnLiteralChompingHeadersAgreeRow : OpenClaim := { program := "qxb6603316amods", sum := "84f38550ec74422c7e6bbffcca7b46d0292545bfc8214ce5742df7a42097eb56", func := "example.com/rollcall/rollcall/zzlaws_internal_manifest_b1.FnLiteralChompingHeadersAgree", spec := "fnLiteralChompingHeadersAgree", inPlace := ["internal/bytealg.IndexByte"], make := .lifted ["publicsums"], apart := false }
def FnLiteralChompingHeadersAgreeSaid : Prop := fnLiteralChompingHeadersAgreeRow.holds Trym.pinned (OpenSpec.ofChange fnLiteralChompingHeadersAgreeSpec)

/-- ITS FALSE NEIGHBOUR: 'it returns false'. Refute it at one input. -/
def fnLiteralChompingHeadersAgreeWrong : ChangeSpec := { name := "fnLiteralChompingHeadersAgree", fn := fun _ => fun
  | [d1, d2, d3] => { results := [.lit (.bool false)], args := [d1, d2, d3] }
  | _ => none }
def FnLiteralChompingHeadersAgreeWrongFalsely : Prop := fnLiteralChompingHeadersAgreeRow.holds Trym.pinned (OpenSpec.ofChange fnLiteralChompingHeadersAgreeWrong)

end Rows
end Go.Proofs.Qxb6603316aMods
