/-
  No cell of these rows narrows 'for every input' (looked for: loops, veiled, ifaces, maps, wideKeys, modest, calm, conditions, laid).
  DERIVED. THE GIVEN ROWS OF THIS SEAT. 4 by the template 'for every input the law returns true; each argument reads behind the call as it read before'; 0 by the template 'total and deterministic' (their statements: Qxb6615798aTotals.lean).
  GIVEN WITH THE SEED: the statements are not yours to turn. If you find one false, say at which input.
  Laid BY PROGRAM, IN A SANDBOX (cutbox-rows.mjs): the forced cells as the released guide's own fill.sh prints them over the translation 42f68eaf14b3c390… (all of the seat's roots in one cut). By AI agents, Wed Nov 11 2026. No macro, syntax, notation, axiom, sorry.
-/
import Derived.Test.Qxb6615798aChecked
import GoSem.Claim
import GoSem.ClaimJoined
import GoSem.ClaimMapViews
import Derived.JoinedTies
import Derived.KernelRfl
namespace Go.Proofs.Qxb6615798a
/- THE CELL 'sum', in the pinned program and in every row, IS THE sha256 OF THE DUMP (.gsa) THAT Qxb6615798aProg.lean LOADS. Nothing in Lean hashes anything: it is a label: what it is worth is what the hold of that sum in a sandbox is worth. -/
noncomputable def Try.pinned : Pinned := { name := "qxb6615798a", sum := "42f68eaf14b3c3903494689b6d686f58fb34a91ab60f70bc638ca3611cbcce0b", checked := Try.checked }
namespace Rows
def none {H : Type} : Left H := { results := [], args := [] }

/-- 'zzlaws_root_b1.FnProposeIsTheQuorumValue': WHATEVER THE INPUT: true; the input reads as it did. -/
def fnProposeIsTheQuorumValueSpec : ChangeSpec := { name := "fnProposeIsTheQuorumValue", fn := fun _ => fun
  | [d1, d2, d3, d4, d5, d6] => { results := [.lit (.bool true)], args := [d1, d2, d3, d4, d5, d6] }
  | _ => none }
def fnProposeIsTheQuorumValueRow : OpenClaim := { program := "qxb6615798a", sum := "42f68eaf14b3c3903494689b6d686f58fb34a91ab60f70bc638ca3611cbcce0b", func := "example.com/reconvene/reconvene/zzlaws_root_b1.FnProposeIsTheQuorumValue", spec := "fnProposeIsTheQuorumValue", apart := false }
def FnProposeIsTheQuorumValueSaid : Prop := fnProposeIsTheQuorumValueRow.holds Try.pinned (OpenSpec.ofChange fnProposeIsTheQuorumValueSpec)

/-- ITS FALSE NEIGHBOUR: 'it returns false'. Refute it at one input. -/
def fnProposeIsTheQuorumValueWrong : ChangeSpec := { name := "fnProposeIsTheQuorumValue", fn := fun _ => fun
  | [d1, d2, d3, d4, d5, d6] => { results := [.lit (.bool false)], args := [d1, d2, d3, d4, d5, d6] }
  | _ => none }
def FnProposeIsTheQuorumValueWrongFalsely : Prop := fnProposeIsTheQuorumValueRow.holds Try.pinned (OpenSpec.ofChange fnProposeIsTheQuorumValueWrong)

/-- 'zzlaws_root_b1.FnProposeNeverSplitsAcrossTFaults': WHATEVER THE INPUT: true; the input reads as it did. -/
def fnProposeNeverSplitsAcrossTFaultsSpec : ChangeSpec := { name := "fnProposeNeverSplitsAcrossTFaults", fn := fun _ => fun
  | [d1, d2, d3, d4, d5, d6, d7] => { results := [.lit (.bool true)], args := [d1, d2, d3, d4, d5, d6, d7] }
  | _ => none }
def fnProposeNeverSplitsAcrossTFaultsRow : OpenClaim := { program := "qxb6615798a", sum := "42f68eaf14b3c3903494689b6d686f58fb34a91ab60f70bc638ca3611cbcce0b", func := "example.com/reconvene/reconvene/zzlaws_root_b1.FnProposeNeverSplitsAcrossTFaults", spec := "fnProposeNeverSplitsAcrossTFaults", apart := false }
def FnProposeNeverSplitsAcrossTFaultsSaid : Prop := fnProposeNeverSplitsAcrossTFaultsRow.holds Try.pinned (OpenSpec.ofChange fnProposeNeverSplitsAcrossTFaultsSpec)

/-- ITS FALSE NEIGHBOUR: 'it returns false'. Refute it at one input. -/
def fnProposeNeverSplitsAcrossTFaultsWrong : ChangeSpec := { name := "fnProposeNeverSplitsAcrossTFaults", fn := fun _ => fun
  | [d1, d2, d3, d4, d5, d6, d7] => { results := [.lit (.bool false)], args := [d1, d2, d3, d4, d5, d6, d7] }
  | _ => none }
def FnProposeNeverSplitsAcrossTFaultsWrongFalsely : Prop := fnProposeNeverSplitsAcrossTFaultsRow.holds Try.pinned (OpenSpec.ofChange fnProposeNeverSplitsAcrossTFaultsWrong)

/-- 'zzlaws_root_b1.FnInWindowIsTheLastLogSizePlusOneSlots': WHATEVER THE INPUT: true; the input reads as it did. -/
def fnInWindowIsTheLastLogSizePlusOneSlotsSpec : ChangeSpec := { name := "fnInWindowIsTheLastLogSizePlusOneSlots", fn := fun _ => fun
  | [d1, d2, d3] => { results := [.lit (.bool true)], args := [d1, d2, d3] }
  | _ => none }
def fnInWindowIsTheLastLogSizePlusOneSlotsRow : OpenClaim := { program := "qxb6615798a", sum := "42f68eaf14b3c3903494689b6d686f58fb34a91ab60f70bc638ca3611cbcce0b", func := "example.com/reconvene/reconvene/zzlaws_root_b1.FnInWindowIsTheLastLogSizePlusOneSlots", spec := "fnInWindowIsTheLastLogSizePlusOneSlots", apart := false }
def FnInWindowIsTheLastLogSizePlusOneSlotsSaid : Prop := fnInWindowIsTheLastLogSizePlusOneSlotsRow.holds Try.pinned (OpenSpec.ofChange fnInWindowIsTheLastLogSizePlusOneSlotsSpec)

/-- ITS FALSE NEIGHBOUR: 'it returns false'. Refute it at one input. -/
def fnInWindowIsTheLastLogSizePlusOneSlotsWrong : ChangeSpec := { name := "fnInWindowIsTheLastLogSizePlusOneSlots", fn := fun _ => fun
  | [d1, d2, d3] => { results := [.lit (.bool false)], args := [d1, d2, d3] }
  | _ => none }
def FnInWindowIsTheLastLogSizePlusOneSlotsWrongFalsely : Prop := fnInWindowIsTheLastLogSizePlusOneSlotsRow.holds Try.pinned (OpenSpec.ofChange fnInWindowIsTheLastLogSizePlusOneSlotsWrong)

/-- 'zzlaws_root_b1.FnInWindowTurnsWithTheIndex': WHATEVER THE INPUT: true; the input reads as it did. -/
def fnInWindowTurnsWithTheIndexSpec : ChangeSpec := { name := "fnInWindowTurnsWithTheIndex", fn := fun _ => fun
  | [d1, d2, d3, d4] => { results := [.lit (.bool true)], args := [d1, d2, d3, d4] }
  | _ => none }
def fnInWindowTurnsWithTheIndexRow : OpenClaim := { program := "qxb6615798a", sum := "42f68eaf14b3c3903494689b6d686f58fb34a91ab60f70bc638ca3611cbcce0b", func := "example.com/reconvene/reconvene/zzlaws_root_b1.FnInWindowTurnsWithTheIndex", spec := "fnInWindowTurnsWithTheIndex", apart := false }
def FnInWindowTurnsWithTheIndexSaid : Prop := fnInWindowTurnsWithTheIndexRow.holds Try.pinned (OpenSpec.ofChange fnInWindowTurnsWithTheIndexSpec)

/-- ITS FALSE NEIGHBOUR: 'it returns false'. Refute it at one input. -/
def fnInWindowTurnsWithTheIndexWrong : ChangeSpec := { name := "fnInWindowTurnsWithTheIndex", fn := fun _ => fun
  | [d1, d2, d3, d4] => { results := [.lit (.bool false)], args := [d1, d2, d3, d4] }
  | _ => none }
def FnInWindowTurnsWithTheIndexWrongFalsely : Prop := fnInWindowTurnsWithTheIndexRow.holds Try.pinned (OpenSpec.ofChange fnInWindowTurnsWithTheIndexWrong)

end Rows
end Go.Proofs.Qxb6615798a
