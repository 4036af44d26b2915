/-
  No cell of these rows narrows 'for every input' (looked for: loops, veiled, ifaces, maps, wideKeys, modest, calm, conditions, laid).
  DERIVED. THE GIVEN ROWS OF THIS SEAT. 5 by the template 'for every input the law returns true; each argument reads behind the call as it read before'; 0 by the template 'total and deterministic' (their statements: Qxb6603995aModsTotals.lean).
  GIVEN WITH THE SEED: the statements are not yours to turn. If you find one false, say at which input.
  Laid BY PROGRAM, IN A SANDBOX (cutbox-rows.mjs): the forced cells as the released guide's own fill.sh prints them over the translation 8524657a1a94b0e1… (all of the seat's roots in one cut). By AI agents, Wed Nov 11 2026. No macro, syntax, notation, axiom, sorry.
-/
import Derived.Test.Qxb6603995aModsChecked
import GoSem.Claim
import GoSem.ClaimJoined
import GoSem.ClaimMapViews
import Derived.JoinedTies
import Derived.KernelRfl
namespace Go.Proofs.Qxb6603995aMods
/- THE CELL 'sum', in the pinned program and in every row, IS THE sha256 OF THE DUMP (.gsa) THAT Qxb6603995aModsProg.lean LOADS. Nothing in Lean hashes anything: it is a label: what it is worth is what the hold of that sum in a sandbox is worth. -/
noncomputable def Trym.pinned : Pinned := { name := "qxb6603995amods", sum := "8524657a1a94b0e1b2d8eae3d0d92dadfd7ca9dab972aa989d5f39c61d42ec97", checked := Trym.checked }
namespace Rows
def none {H : Type} : Left H := { results := [], args := [] }

/-- 'zzlaws_root_b1.FnNumberEndMatchesGrammarAutomaton': WHATEVER THE INPUT: true; the input reads as it did. -/
def fnNumberEndMatchesGrammarAutomatonSpec : ChangeSpec := { name := "fnNumberEndMatchesGrammarAutomaton", fn := fun _ => fun
  | [d1, d2] => { results := [.lit (.bool true)], args := [d1, d2] }
  | _ => none }
def fnNumberEndMatchesGrammarAutomatonRow : OpenClaim := { program := "qxb6603995amods", sum := "8524657a1a94b0e1b2d8eae3d0d92dadfd7ca9dab972aa989d5f39c61d42ec97", func := "example.com/basisline/basisline/zzlaws_root_b1.FnNumberEndMatchesGrammarAutomaton", spec := "fnNumberEndMatchesGrammarAutomaton", make := .lifted ["publicsums"], apart := false }
def FnNumberEndMatchesGrammarAutomatonSaid : Prop := fnNumberEndMatchesGrammarAutomatonRow.holds Trym.pinned (OpenSpec.ofChange fnNumberEndMatchesGrammarAutomatonSpec)

/-- ITS FALSE NEIGHBOUR: 'it returns false'. Refute it at one input. -/
def fnNumberEndMatchesGrammarAutomatonWrong : ChangeSpec := { name := "fnNumberEndMatchesGrammarAutomaton", fn := fun _ => fun
  | [d1, d2] => { results := [.lit (.bool false)], args := [d1, d2] }
  | _ => none }
def FnNumberEndMatchesGrammarAutomatonWrongFalsely : Prop := fnNumberEndMatchesGrammarAutomatonRow.holds Trym.pinned (OpenSpec.ofChange fnNumberEndMatchesGrammarAutomatonWrong)

/-- 'zzlaws_root_b1.FnNumberEndVerdictRestsOnBytesBeforeEnd': WHATEVER THE INPUT: true; the input reads as it did. -/
def fnNumberEndVerdictRestsOnBytesBeforeEndSpec : ChangeSpec := { name := "fnNumberEndVerdictRestsOnBytesBeforeEnd", fn := fun _ => fun
  | [d1, d2] => { results := [.lit (.bool true)], args := [d1, d2] }
  | _ => none }
def fnNumberEndVerdictRestsOnBytesBeforeEndRow : OpenClaim := { program := "qxb6603995amods", sum := "8524657a1a94b0e1b2d8eae3d0d92dadfd7ca9dab972aa989d5f39c61d42ec97", func := "example.com/basisline/basisline/zzlaws_root_b1.FnNumberEndVerdictRestsOnBytesBeforeEnd", spec := "fnNumberEndVerdictRestsOnBytesBeforeEnd", make := .lifted ["publicsums"], apart := false }
def FnNumberEndVerdictRestsOnBytesBeforeEndSaid : Prop := fnNumberEndVerdictRestsOnBytesBeforeEndRow.holds Trym.pinned (OpenSpec.ofChange fnNumberEndVerdictRestsOnBytesBeforeEndSpec)

/-- ITS FALSE NEIGHBOUR: 'it returns false'. Refute it at one input. -/
def fnNumberEndVerdictRestsOnBytesBeforeEndWrong : ChangeSpec := { name := "fnNumberEndVerdictRestsOnBytesBeforeEnd", fn := fun _ => fun
  | [d1, d2] => { results := [.lit (.bool false)], args := [d1, d2] }
  | _ => none }
def FnNumberEndVerdictRestsOnBytesBeforeEndWrongFalsely : Prop := fnNumberEndVerdictRestsOnBytesBeforeEndRow.holds Trym.pinned (OpenSpec.ofChange fnNumberEndVerdictRestsOnBytesBeforeEndWrong)

/-- 'zzlaws_root_b1.FnCanonicalHeadIsPrefixOfCanonicalForm': WHATEVER THE INPUT: true; the input reads as it did. -/
def fnCanonicalHeadIsPrefixOfCanonicalFormSpec : ChangeSpec := { name := "fnCanonicalHeadIsPrefixOfCanonicalForm", fn := fun _ => fun
  | [d1, d2, d3, d4] => { results := [.lit (.bool true)], args := [d1, d2, d3, d4] }
  | _ => none }
def fnCanonicalHeadIsPrefixOfCanonicalFormRow : OpenClaim := { program := "qxb6603995amods", sum := "8524657a1a94b0e1b2d8eae3d0d92dadfd7ca9dab972aa989d5f39c61d42ec97", func := "example.com/basisline/basisline/zzlaws_root_b1.FnCanonicalHeadIsPrefixOfCanonicalForm", spec := "fnCanonicalHeadIsPrefixOfCanonicalForm", make := .lifted ["publicsums"], apart := false }
def FnCanonicalHeadIsPrefixOfCanonicalFormSaid : Prop := fnCanonicalHeadIsPrefixOfCanonicalFormRow.holds Trym.pinned (OpenSpec.ofChange fnCanonicalHeadIsPrefixOfCanonicalFormSpec)

/-- ITS FALSE NEIGHBOUR: 'it returns false'. Refute it at one input. -/
def fnCanonicalHeadIsPrefixOfCanonicalFormWrong : ChangeSpec := { name := "fnCanonicalHeadIsPrefixOfCanonicalForm", fn := fun _ => fun
  | [d1, d2, d3, d4] => { results := [.lit (.bool false)], args := [d1, d2, d3, d4] }
  | _ => none }
def FnCanonicalHeadIsPrefixOfCanonicalFormWrongFalsely : Prop := fnCanonicalHeadIsPrefixOfCanonicalFormRow.holds Trym.pinned (OpenSpec.ofChange fnCanonicalHeadIsPrefixOfCanonicalFormWrong)

/-- 'zzlaws_root_b1.FnHexRuneMatchesPositionalValue': WHATEVER THE INPUT: true; the input reads as it did. -/
def fnHexRuneMatchesPositionalValueSpec : ChangeSpec := { name := "fnHexRuneMatchesPositionalValue", fn := fun _ => fun
  | [d] => { results := [.lit (.bool true)], args := [d] }
  | _ => none }
def fnHexRuneMatchesPositionalValueRow : OpenClaim := { program := "qxb6603995amods", sum := "8524657a1a94b0e1b2d8eae3d0d92dadfd7ca9dab972aa989d5f39c61d42ec97", func := "example.com/basisline/basisline/zzlaws_root_b1.FnHexRuneMatchesPositionalValue", spec := "fnHexRuneMatchesPositionalValue", make := .lifted ["publicsums"], apart := false }
def FnHexRuneMatchesPositionalValueSaid : Prop := fnHexRuneMatchesPositionalValueRow.holds Trym.pinned (OpenSpec.ofChange fnHexRuneMatchesPositionalValueSpec)

/-- ITS FALSE NEIGHBOUR: 'it returns false'. Refute it at one input. -/
def fnHexRuneMatchesPositionalValueWrong : ChangeSpec := { name := "fnHexRuneMatchesPositionalValue", fn := fun _ => fun
  | [d] => { results := [.lit (.bool false)], args := [d] }
  | _ => none }
def FnHexRuneMatchesPositionalValueWrongFalsely : Prop := fnHexRuneMatchesPositionalValueRow.holds Trym.pinned (OpenSpec.ofChange fnHexRuneMatchesPositionalValueWrong)

/-- 'zzlaws_root_b1.FnHexRuneInvertsHexEncoding': WHATEVER THE INPUT: true; the input reads as it did. -/
def fnHexRuneInvertsHexEncodingSpec : ChangeSpec := { name := "fnHexRuneInvertsHexEncoding", fn := fun _ => fun
  | [d1, d2] => { results := [.lit (.bool true)], args := [d1, d2] }
  | _ => none }
def fnHexRuneInvertsHexEncodingRow : OpenClaim := { program := "qxb6603995amods", sum := "8524657a1a94b0e1b2d8eae3d0d92dadfd7ca9dab972aa989d5f39c61d42ec97", func := "example.com/basisline/basisline/zzlaws_root_b1.FnHexRuneInvertsHexEncoding", spec := "fnHexRuneInvertsHexEncoding", make := .lifted ["publicsums"], apart := false }
def FnHexRuneInvertsHexEncodingSaid : Prop := fnHexRuneInvertsHexEncodingRow.holds Trym.pinned (OpenSpec.ofChange fnHexRuneInvertsHexEncodingSpec)

/-- ITS FALSE NEIGHBOUR: 'it returns false'. Refute it at one input. -/
def fnHexRuneInvertsHexEncodingWrong : ChangeSpec := { name := "fnHexRuneInvertsHexEncoding", fn := fun _ => fun
  | [d1, d2] => { results := [.lit (.bool false)], args := [d1, d2] }
  | _ => none }
def FnHexRuneInvertsHexEncodingWrongFalsely : Prop := fnHexRuneInvertsHexEncodingRow.holds Trym.pinned (OpenSpec.ofChange fnHexRuneInvertsHexEncodingWrong)

end Rows
end Go.Proofs.Qxb6603995aMods
