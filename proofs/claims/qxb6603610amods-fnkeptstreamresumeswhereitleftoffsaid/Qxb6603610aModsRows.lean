/-
  No cell of these rows narrows 'for every input' (looked for: loops, veiled, ifaces, maps, wideKeys, modest, calm, conditions, laid).
  DERIVED. THE GIVEN ROWS OF THIS SEAT. 4 by the template 'for every input the law returns true; each argument reads behind the call as it read before'; 0 by the template 'total and deterministic' (their statements: Qxb6603610aModsTotals.lean).
  GIVEN WITH THE SEED: the statements are not yours to turn. If you find one false, say at which input.
  Laid BY PROGRAM, IN A SANDBOX (cutbox-rows.mjs): the forced cells as the released guide's own fill.sh prints them over the translation 84172fe3457d4db6… (all of the seat's roots in one cut). By AI agents, Wed Nov 11 2026. No macro, syntax, notation, axiom, sorry.
-/
import Derived.Test.Qxb6603610aModsChecked
import GoSem.Claim
import GoSem.ClaimJoined
import GoSem.ClaimMapViews
import Derived.JoinedTies
import Derived.KernelRfl
namespace Go.Proofs.Qxb6603610aMods
/- THE CELL 'sum', in the pinned program and in every row, IS THE sha256 OF THE DUMP (.gsa) THAT Qxb6603610aModsProg.lean LOADS. Nothing in Lean hashes anything: it is a label: what it is worth is what the hold of that sum in a sandbox is worth. -/
noncomputable def Trym.pinned : Pinned := { name := "qxb6603610amods", sum := "84172fe3457d4db6191e84bd3210161916807559be7cc5c978f7f6c1804f76d2", checked := Trym.checked }
namespace Rows
def none {H : Type} : Left H := { results := [], args := [] }

/-- 'zzlaws_register_b1.FnKeptStreamHandsOutTheRestInOrder': WHATEVER THE INPUT: true; the input reads as it did. -/
def fnKeptStreamHandsOutTheRestInOrderSpec : ChangeSpec := { name := "fnKeptStreamHandsOutTheRestInOrder", fn := fun _ => fun
  | [d1, d2] => { results := [.lit (.bool true)], args := [d1, d2] }
  | _ => none }
def fnKeptStreamHandsOutTheRestInOrderRow : OpenClaim := { program := "qxb6603610amods", sum := "84172fe3457d4db6191e84bd3210161916807559be7cc5c978f7f6c1804f76d2", func := "example.com/zhaomu/zhaomu/zzlaws_register_b1.FnKeptStreamHandsOutTheRestInOrder", spec := "fnKeptStreamHandsOutTheRestInOrder", make := .lifted ["publicsums"], apart := false }
def FnKeptStreamHandsOutTheRestInOrderSaid : Prop := fnKeptStreamHandsOutTheRestInOrderRow.holds Trym.pinned (OpenSpec.ofChange fnKeptStreamHandsOutTheRestInOrderSpec)

/-- ITS FALSE NEIGHBOUR: 'it returns false'. Refute it at one input. -/
def fnKeptStreamHandsOutTheRestInOrderWrong : ChangeSpec := { name := "fnKeptStreamHandsOutTheRestInOrder", fn := fun _ => fun
  | [d1, d2] => { results := [.lit (.bool false)], args := [d1, d2] }
  | _ => none }
def FnKeptStreamHandsOutTheRestInOrderWrongFalsely : Prop := fnKeptStreamHandsOutTheRestInOrderRow.holds Trym.pinned (OpenSpec.ofChange fnKeptStreamHandsOutTheRestInOrderWrong)

/-- 'zzlaws_register_b1.FnKeptStreamResumesWhereItLeftOff': WHATEVER THE INPUT: true; the input reads as it did. -/
def fnKeptStreamResumesWhereItLeftOffSpec : ChangeSpec := { name := "fnKeptStreamResumesWhereItLeftOff", fn := fun _ => fun
  | [d1, d2] => { results := [.lit (.bool true)], args := [d1, d2] }
  | _ => none }
def fnKeptStreamResumesWhereItLeftOffRow : OpenClaim := { program := "qxb6603610amods", sum := "84172fe3457d4db6191e84bd3210161916807559be7cc5c978f7f6c1804f76d2", func := "example.com/zhaomu/zhaomu/zzlaws_register_b1.FnKeptStreamResumesWhereItLeftOff", spec := "fnKeptStreamResumesWhereItLeftOff", make := .lifted ["publicsums"], apart := false }
def FnKeptStreamResumesWhereItLeftOffSaid : Prop := fnKeptStreamResumesWhereItLeftOffRow.holds Trym.pinned (OpenSpec.ofChange fnKeptStreamResumesWhereItLeftOffSpec)

/-- ITS FALSE NEIGHBOUR: 'it returns false'. Refute it at one input. -/
def fnKeptStreamResumesWhereItLeftOffWrong : ChangeSpec := { name := "fnKeptStreamResumesWhereItLeftOff", fn := fun _ => fun
  | [d1, d2] => { results := [.lit (.bool false)], args := [d1, d2] }
  | _ => none }
def FnKeptStreamResumesWhereItLeftOffWrongFalsely : Prop := fnKeptStreamResumesWhereItLeftOffRow.holds Trym.pinned (OpenSpec.ofChange fnKeptStreamResumesWhereItLeftOffWrong)

/-- 'zzlaws_register_b1.FnFlushAfterFailureRefusesAndEmpties': WHATEVER THE INPUT: true; the input reads as it did. -/
def fnFlushAfterFailureRefusesAndEmptiesSpec : ChangeSpec := { name := "fnFlushAfterFailureRefusesAndEmpties", fn := fun _ => fun
  | [d] => { results := [.lit (.bool true)], args := [d] }
  | _ => none }
def fnFlushAfterFailureRefusesAndEmptiesRow : OpenClaim := { program := "qxb6603610amods", sum := "84172fe3457d4db6191e84bd3210161916807559be7cc5c978f7f6c1804f76d2", func := "example.com/zhaomu/zhaomu/zzlaws_register_b1.FnFlushAfterFailureRefusesAndEmpties", spec := "fnFlushAfterFailureRefusesAndEmpties", inPlace := ["sync/atomic.StoreUint32", "internal/abi.NoEscape", "internal/bytealg.MakeNoZero", "sync/atomic.LoadUint32"], make := .lifted ["publicsums"], apart := false }
def FnFlushAfterFailureRefusesAndEmptiesSaid : Prop := fnFlushAfterFailureRefusesAndEmptiesRow.holds Trym.pinned (OpenSpec.ofChange fnFlushAfterFailureRefusesAndEmptiesSpec)

/-- ITS FALSE NEIGHBOUR: 'it returns false'. Refute it at one input. -/
def fnFlushAfterFailureRefusesAndEmptiesWrong : ChangeSpec := { name := "fnFlushAfterFailureRefusesAndEmpties", fn := fun _ => fun
  | [d] => { results := [.lit (.bool false)], args := [d] }
  | _ => none }
def FnFlushAfterFailureRefusesAndEmptiesWrongFalsely : Prop := fnFlushAfterFailureRefusesAndEmptiesRow.holds Trym.pinned (OpenSpec.ofChange fnFlushAfterFailureRefusesAndEmptiesWrong)

/-- 'zzlaws_register_b1.FnFlushQueuesOneStatementThatBindsEveryValue': WHATEVER THE INPUT: true; the input reads as it did. -/
def fnFlushQueuesOneStatementThatBindsEveryValueSpec : ChangeSpec := { name := "fnFlushQueuesOneStatementThatBindsEveryValue", fn := fun _ => fun
  | [d] => { results := [.lit (.bool true)], args := [d] }
  | _ => none }
def fnFlushQueuesOneStatementThatBindsEveryValueRow : OpenClaim := { program := "qxb6603610amods", sum := "84172fe3457d4db6191e84bd3210161916807559be7cc5c978f7f6c1804f76d2", func := "example.com/zhaomu/zhaomu/zzlaws_register_b1.FnFlushQueuesOneStatementThatBindsEveryValue", spec := "fnFlushQueuesOneStatementThatBindsEveryValue", inPlace := ["internal/abi.NoEscape", "internal/bytealg.MakeNoZero", "sync/atomic.LoadUint32"], make := .lifted ["publicsums"], apart := false }
def FnFlushQueuesOneStatementThatBindsEveryValueSaid : Prop := fnFlushQueuesOneStatementThatBindsEveryValueRow.holds Trym.pinned (OpenSpec.ofChange fnFlushQueuesOneStatementThatBindsEveryValueSpec)

/-- ITS FALSE NEIGHBOUR: 'it returns false'. Refute it at one input. -/
def fnFlushQueuesOneStatementThatBindsEveryValueWrong : ChangeSpec := { name := "fnFlushQueuesOneStatementThatBindsEveryValue", fn := fun _ => fun
  | [d] => { results := [.lit (.bool false)], args := [d] }
  | _ => none }
def FnFlushQueuesOneStatementThatBindsEveryValueWrongFalsely : Prop := fnFlushQueuesOneStatementThatBindsEveryValueRow.holds Trym.pinned (OpenSpec.ofChange fnFlushQueuesOneStatementThatBindsEveryValueWrong)

end Rows
end Go.Proofs.Qxb6603610aMods
