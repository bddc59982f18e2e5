/-
  No cell of these rows narrows 'for every input' (looked for: loops, veiled, ifaces, maps, wideKeys, modest, calm, conditions, laid).
  DERIVED. THE GIVEN ROWS OF THIS SEAT. 4 by the template 'for every input the law returns true; each argument reads behind the call as it read before'; 0 by the template 'total and deterministic' (their statements: Qxb6608607aTotals.lean).
  GIVEN WITH THE SEED: the statements are not yours to turn. If you find one false, say at which input.
  Laid BY PROGRAM, IN A SANDBOX (cutbox-rows.mjs): the forced cells as the released guide's own fill.sh prints them over the translation d667f24740938b56… (all of the seat's roots in one cut). By AI agents, Wed Nov 11 2026. No macro, syntax, notation, axiom, sorry.
-/
import Derived.Test.Qxb6608607aChecked
import GoSem.Claim
import GoSem.ClaimJoined
import GoSem.ClaimMapViews
import Derived.JoinedTies
import Derived.KernelRfl
namespace Go.Proofs.Qxb6608607a
/- THE CELL 'sum', in the pinned program and in every row, IS THE sha256 OF THE DUMP (.gsa) THAT Qxb6608607aProg.lean LOADS. Nothing in Lean hashes anything: it is a label: what it is worth is what the hold of that sum in a sandbox is worth. -/
noncomputable def Try.pinned : Pinned := { name := "qxb6608607a", sum := "d667f24740938b56f06a06022db1756c96471f2e673b091e8b44b3bd73a0ad0a", checked := Try.checked }
namespace Rows
def none {H : Type} : Left H := { results := [], args := [] }

/-- 'zzlaws_ewftest_b1.FnWithAdlerJoinsAtAnyCut': WHATEVER THE INPUT: true; the input reads as it did. -/
def fnWithAdlerJoinsAtAnyCutSpec : ChangeSpec := { name := "fnWithAdlerJoinsAtAnyCut", fn := fun _ => fun
  | [d1, d2, d3] => { results := [.lit (.bool true)], args := [d1, d2, d3] }
  | _ => none }
def fnWithAdlerJoinsAtAnyCutRow : OpenClaim := { program := "qxb6608607a", sum := "d667f24740938b56f06a06022db1756c96471f2e673b091e8b44b3bd73a0ad0a", func := "example.com/hashweave/hashweave/zzlaws_ewftest_b1.FnWithAdlerJoinsAtAnyCut", spec := "fnWithAdlerJoinsAtAnyCut", named := ["encoding/binary.LittleEndian"], apart := false }
def FnWithAdlerJoinsAtAnyCutSaid : Prop := fnWithAdlerJoinsAtAnyCutRow.holds Try.pinned (OpenSpec.ofChange fnWithAdlerJoinsAtAnyCutSpec)

/-- ITS FALSE NEIGHBOUR: 'it returns false'. Refute it at one input. -/
def fnWithAdlerJoinsAtAnyCutWrong : ChangeSpec := { name := "fnWithAdlerJoinsAtAnyCut", fn := fun _ => fun
  | [d1, d2, d3] => { results := [.lit (.bool false)], args := [d1, d2, d3] }
  | _ => none }
def FnWithAdlerJoinsAtAnyCutWrongFalsely : Prop := fnWithAdlerJoinsAtAnyCutRow.holds Try.pinned (OpenSpec.ofChange fnWithAdlerJoinsAtAnyCutWrong)

/-- 'zzlaws_ewftest_b1.FnWithAdlerAgreesWithPutAdler': WHATEVER THE INPUT: true; the input reads as it did. -/
def fnWithAdlerAgreesWithPutAdlerSpec : ChangeSpec := { name := "fnWithAdlerAgreesWithPutAdler", fn := fun _ => fun
  | [d1, d2, d3, d4] => { results := [.lit (.bool true)], args := [d1, d2, d3, d4] }
  | _ => none }
def fnWithAdlerAgreesWithPutAdlerRow : OpenClaim := { program := "qxb6608607a", sum := "d667f24740938b56f06a06022db1756c96471f2e673b091e8b44b3bd73a0ad0a", func := "example.com/hashweave/hashweave/zzlaws_ewftest_b1.FnWithAdlerAgreesWithPutAdler", spec := "fnWithAdlerAgreesWithPutAdler", named := ["encoding/binary.LittleEndian"], apart := false }
def FnWithAdlerAgreesWithPutAdlerSaid : Prop := fnWithAdlerAgreesWithPutAdlerRow.holds Try.pinned (OpenSpec.ofChange fnWithAdlerAgreesWithPutAdlerSpec)

/-- ITS FALSE NEIGHBOUR: 'it returns false'. Refute it at one input. -/
def fnWithAdlerAgreesWithPutAdlerWrong : ChangeSpec := { name := "fnWithAdlerAgreesWithPutAdler", fn := fun _ => fun
  | [d1, d2, d3, d4] => { results := [.lit (.bool false)], args := [d1, d2, d3, d4] }
  | _ => none }
def FnWithAdlerAgreesWithPutAdlerWrongFalsely : Prop := fnWithAdlerAgreesWithPutAdlerRow.holds Try.pinned (OpenSpec.ofChange fnWithAdlerAgreesWithPutAdlerWrong)

/-- 'zzlaws_ewftest_b1.FnAddChainReadsBack': WHATEVER THE INPUT: true; the input reads as it did. -/
def fnAddChainReadsBackSpec : ChangeSpec := { name := "fnAddChainReadsBack", fn := fun _ => fun
  | [d1, d2, d3, d4] => { results := [.lit (.bool true)], args := [d1, d2, d3, d4] }
  | _ => none }
def fnAddChainReadsBackRow : OpenClaim := { program := "qxb6608607a", sum := "d667f24740938b56f06a06022db1756c96471f2e673b091e8b44b3bd73a0ad0a", func := "example.com/hashweave/hashweave/zzlaws_ewftest_b1.FnAddChainReadsBack", spec := "fnAddChainReadsBack", named := ["encoding/binary.LittleEndian"], apart := false }
def FnAddChainReadsBackSaid : Prop := fnAddChainReadsBackRow.holds Try.pinned (OpenSpec.ofChange fnAddChainReadsBackSpec)

/-- ITS FALSE NEIGHBOUR: 'it returns false'. Refute it at one input. -/
def fnAddChainReadsBackWrong : ChangeSpec := { name := "fnAddChainReadsBack", fn := fun _ => fun
  | [d1, d2, d3, d4] => { results := [.lit (.bool false)], args := [d1, d2, d3, d4] }
  | _ => none }
def FnAddChainReadsBackWrongFalsely : Prop := fnAddChainReadsBackRow.holds Try.pinned (OpenSpec.ofChange fnAddChainReadsBackWrong)

/-- 'zzlaws_ewftest_b1.FnAddPaddingShiftsOnlyByPad': WHATEVER THE INPUT: true; the input reads as it did. -/
def fnAddPaddingShiftsOnlyByPadSpec : ChangeSpec := { name := "fnAddPaddingShiftsOnlyByPad", fn := fun _ => fun
  | [d1, d2, d3] => { results := [.lit (.bool true)], args := [d1, d2, d3] }
  | _ => none }
def fnAddPaddingShiftsOnlyByPadRow : OpenClaim := { program := "qxb6608607a", sum := "d667f24740938b56f06a06022db1756c96471f2e673b091e8b44b3bd73a0ad0a", func := "example.com/hashweave/hashweave/zzlaws_ewftest_b1.FnAddPaddingShiftsOnlyByPad", spec := "fnAddPaddingShiftsOnlyByPad", named := ["encoding/binary.LittleEndian"], apart := false }
def FnAddPaddingShiftsOnlyByPadSaid : Prop := fnAddPaddingShiftsOnlyByPadRow.holds Try.pinned (OpenSpec.ofChange fnAddPaddingShiftsOnlyByPadSpec)

/-- ITS FALSE NEIGHBOUR: 'it returns false'. Refute it at one input. -/
def fnAddPaddingShiftsOnlyByPadWrong : ChangeSpec := { name := "fnAddPaddingShiftsOnlyByPad", fn := fun _ => fun
  | [d1, d2, d3] => { results := [.lit (.bool false)], args := [d1, d2, d3] }
  | _ => none }
def FnAddPaddingShiftsOnlyByPadWrongFalsely : Prop := fnAddPaddingShiftsOnlyByPadRow.holds Try.pinned (OpenSpec.ofChange fnAddPaddingShiftsOnlyByPadWrong)

end Rows
end Go.Proofs.Qxb6608607a
