/-
  No cell of these rows narrows 'for every input' (looked for: loops, veiled, ifaces, maps, wideKeys, modest, calm, conditions, laid).
  DERIVED. THE GIVEN ROWS OF THIS SEAT. 5 by the template 'for every input the law returns true; each argument reads behind the call as it read before'; 0 by the template 'total and deterministic' (their statements: Qxb6000883aModsTotals.lean).
  GIVEN WITH THE SEED: the statements are not yours to turn. If you find one false, say at which input.
  Laid BY PROGRAM, IN A SANDBOX (cutbox-rows.mjs): the forced cells as the released guide's own fill.sh prints them over the translation 6ccc1b6b223a081f… (all of the seat's roots in one cut). By AI agents, Wed Nov 11 2026. No macro, syntax, notation, axiom, sorry.
-/
import Derived.Test.Qxb6000883aModsChecked
import GoSem.Claim
import GoSem.ClaimJoined
import GoSem.ClaimMapViews
import Derived.JoinedTies
import Derived.KernelRfl
namespace Go.Proofs.Qxb6000883aMods
/- THE CELL 'sum', in the pinned program and in every row, IS THE sha256 OF THE DUMP (.gsa) THAT Qxb6000883aModsProg.lean LOADS. Nothing in Lean hashes anything: it is a label: what it is worth is what the hold of that sum in a sandbox is worth. -/
noncomputable def Trym.pinned : Pinned := { name := "qxb6000883amods", sum := "6ccc1b6b223a081fbc917a6194f5566df86c36faec343aac53d33fabac6698da", checked := Trym.checked }
namespace Rows
def none {H : Type} : Left H := { results := [], args := [] }

/-- 'zzlaws_internal_chain_b1.FnAppendStringDecodesBack': WHATEVER THE INPUT: true; the input reads as it did. -/
def fnAppendStringDecodesBackSpec : ChangeSpec := { name := "fnAppendStringDecodesBack", fn := fun _ => fun
  | [d] => { results := [.lit (.bool true)], args := [d] }
  | _ => none }
def fnAppendStringDecodesBackRow : OpenClaim := { program := "qxb6000883amods", sum := "6ccc1b6b223a081fbc917a6194f5566df86c36faec343aac53d33fabac6698da", func := "example.com/ledgertrail/ledgertrail/zzlaws_internal_chain_b1.FnAppendStringDecodesBack", spec := "fnAppendStringDecodesBack", make := .lifted ["publicsums"], apart := false }
def FnAppendStringDecodesBackSaid : Prop := fnAppendStringDecodesBackRow.holds Trym.pinned (OpenSpec.ofChange fnAppendStringDecodesBackSpec)

/-- ITS FALSE NEIGHBOUR: 'it returns false'. Refute it at one input. -/
def fnAppendStringDecodesBackWrong : ChangeSpec := { name := "fnAppendStringDecodesBack", fn := fun _ => fun
  | [d] => { results := [.lit (.bool false)], args := [d] }
  | _ => none }
def FnAppendStringDecodesBackWrongFalsely : Prop := fnAppendStringDecodesBackRow.holds Trym.pinned (OpenSpec.ofChange fnAppendStringDecodesBackWrong)

/-- 'zzlaws_internal_chain_b1.FnAppendStringIsCanonical': WHATEVER THE INPUT: true; the input reads as it did. -/
def fnAppendStringIsCanonicalSpec : ChangeSpec := { name := "fnAppendStringIsCanonical", fn := fun _ => fun
  | [d] => { results := [.lit (.bool true)], args := [d] }
  | _ => none }
def fnAppendStringIsCanonicalRow : OpenClaim := { program := "qxb6000883amods", sum := "6ccc1b6b223a081fbc917a6194f5566df86c36faec343aac53d33fabac6698da", func := "example.com/ledgertrail/ledgertrail/zzlaws_internal_chain_b1.FnAppendStringIsCanonical", spec := "fnAppendStringIsCanonical", make := .lifted ["publicsums"], apart := false }
def FnAppendStringIsCanonicalSaid : Prop := fnAppendStringIsCanonicalRow.holds Trym.pinned (OpenSpec.ofChange fnAppendStringIsCanonicalSpec)

/-- ITS FALSE NEIGHBOUR: 'it returns false'. Refute it at one input. -/
def fnAppendStringIsCanonicalWrong : ChangeSpec := { name := "fnAppendStringIsCanonical", fn := fun _ => fun
  | [d] => { results := [.lit (.bool false)], args := [d] }
  | _ => none }
def FnAppendStringIsCanonicalWrongFalsely : Prop := fnAppendStringIsCanonicalRow.holds Trym.pinned (OpenSpec.ofChange fnAppendStringIsCanonicalWrong)

/-- 'zzlaws_internal_chain_b1.FnAppendStringExtendsItsBuffer': WHATEVER THE INPUT: true; the input reads as it did. -/
def fnAppendStringExtendsItsBufferSpec : ChangeSpec := { name := "fnAppendStringExtendsItsBuffer", fn := fun _ => fun
  | [d1, d2] => { results := [.lit (.bool true)], args := [d1, d2] }
  | _ => none }
def fnAppendStringExtendsItsBufferRow : OpenClaim := { program := "qxb6000883amods", sum := "6ccc1b6b223a081fbc917a6194f5566df86c36faec343aac53d33fabac6698da", func := "example.com/ledgertrail/ledgertrail/zzlaws_internal_chain_b1.FnAppendStringExtendsItsBuffer", spec := "fnAppendStringExtendsItsBuffer", make := .lifted ["publicsums"], apart := false }
def FnAppendStringExtendsItsBufferSaid : Prop := fnAppendStringExtendsItsBufferRow.holds Trym.pinned (OpenSpec.ofChange fnAppendStringExtendsItsBufferSpec)

/-- ITS FALSE NEIGHBOUR: 'it returns false'. Refute it at one input. -/
def fnAppendStringExtendsItsBufferWrong : ChangeSpec := { name := "fnAppendStringExtendsItsBuffer", fn := fun _ => fun
  | [d1, d2] => { results := [.lit (.bool false)], args := [d1, d2] }
  | _ => none }
def FnAppendStringExtendsItsBufferWrongFalsely : Prop := fnAppendStringExtendsItsBufferRow.holds Trym.pinned (OpenSpec.ofChange fnAppendStringExtendsItsBufferWrong)

/-- 'zzlaws_internal_chain_b1.FnCoversAgreesWithScan': WHATEVER THE INPUT: true; the input reads as it did. -/
def fnCoversAgreesWithScanSpec : ChangeSpec := { name := "fnCoversAgreesWithScan", fn := fun _ => fun
  | [d1, d2] => { results := [.lit (.bool true)], args := [d1, d2] }
  | _ => none }
def fnCoversAgreesWithScanRow : OpenClaim := { program := "qxb6000883amods", sum := "6ccc1b6b223a081fbc917a6194f5566df86c36faec343aac53d33fabac6698da", func := "example.com/ledgertrail/ledgertrail/zzlaws_internal_chain_b1.FnCoversAgreesWithScan", spec := "fnCoversAgreesWithScan", unfollowed := true, recurses := true, make := .lifted ["publicsums"], apart := false }
def FnCoversAgreesWithScanSaid : Prop := fnCoversAgreesWithScanRow.holds Trym.pinned (OpenSpec.ofChange fnCoversAgreesWithScanSpec)

/-- ITS FALSE NEIGHBOUR: 'it returns false'. Refute it at one input. -/
def fnCoversAgreesWithScanWrong : ChangeSpec := { name := "fnCoversAgreesWithScan", fn := fun _ => fun
  | [d1, d2] => { results := [.lit (.bool false)], args := [d1, d2] }
  | _ => none }
def FnCoversAgreesWithScanWrongFalsely : Prop := fnCoversAgreesWithScanRow.holds Trym.pinned (OpenSpec.ofChange fnCoversAgreesWithScanWrong)

/-- 'zzlaws_internal_chain_b1.FnCoversShiftInvariant': WHATEVER THE INPUT: true; the input reads as it did. -/
def fnCoversShiftInvariantSpec : ChangeSpec := { name := "fnCoversShiftInvariant", fn := fun _ => fun
  | [d1, d2, d3] => { results := [.lit (.bool true)], args := [d1, d2, d3] }
  | _ => none }
def fnCoversShiftInvariantRow : OpenClaim := { program := "qxb6000883amods", sum := "6ccc1b6b223a081fbc917a6194f5566df86c36faec343aac53d33fabac6698da", func := "example.com/ledgertrail/ledgertrail/zzlaws_internal_chain_b1.FnCoversShiftInvariant", spec := "fnCoversShiftInvariant", unfollowed := true, recurses := true, make := .lifted ["publicsums"], apart := false }
def FnCoversShiftInvariantSaid : Prop := fnCoversShiftInvariantRow.holds Trym.pinned (OpenSpec.ofChange fnCoversShiftInvariantSpec)

/-- ITS FALSE NEIGHBOUR: 'it returns false'. Refute it at one input. -/
def fnCoversShiftInvariantWrong : ChangeSpec := { name := "fnCoversShiftInvariant", fn := fun _ => fun
  | [d1, d2, d3] => { results := [.lit (.bool false)], args := [d1, d2, d3] }
  | _ => none }
def FnCoversShiftInvariantWrongFalsely : Prop := fnCoversShiftInvariantRow.holds Trym.pinned (OpenSpec.ofChange fnCoversShiftInvariantWrong)

end Rows
end Go.Proofs.Qxb6000883aMods
