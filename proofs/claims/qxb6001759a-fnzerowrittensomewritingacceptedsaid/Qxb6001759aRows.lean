/-
  No cell of these rows narrows 'for every input' (looked for: loops, veiled, ifaces, maps, wideKeys, modest, calm, conditions, laid).
  DERIVED. THE GIVEN ROWS OF THIS SEAT. 5 by the template 'for every input the law returns true; each argument reads behind the call as it read before'; 0 by the template 'total and deterministic' (their statements: Qxb6001759aTotals.lean).
  GIVEN WITH THE SEED: the statements are not yours to turn. If you find one false, say at which input.
  Laid BY PROGRAM, IN A SANDBOX (cutbox-rows.mjs): the forced cells as the released guide's own fill.sh prints them over the translation 09151c1b465aeac0… (all of the seat's roots in one cut). By AI agents, Wed Nov 11 2026. No macro, syntax, notation, axiom, sorry.
-/
import Derived.Test.Qxb6001759aChecked
import GoSem.Claim
import GoSem.ClaimJoined
import GoSem.ClaimMapViews
import Derived.JoinedTies
import Derived.KernelRfl
namespace Go.Proofs.Qxb6001759a
/- THE CELL 'sum', in the pinned program and in every row, IS THE sha256 OF THE DUMP (.gsa) THAT Qxb6001759aProg.lean LOADS. Nothing in Lean hashes anything: it is a label: what it is worth is what the hold of that sum in a sandbox is worth. -/
noncomputable def Try.pinned : Pinned := { name := "qxb6001759a", sum := "09151c1b465aeac0016cab5aefa7b3c226b7171ff8213c5daff16451ca63995c", checked := Try.checked }
namespace Rows
def none {H : Type} : Left H := { results := [], args := [] }

/-- 'zzlaws_pkg_instructions_b1.FnZeroWrittenHangsOnLastDigitAlone': WHATEVER THE INPUT: true; the input reads as it did. -/
def fnZeroWrittenHangsOnLastDigitAloneSpec : ChangeSpec := { name := "fnZeroWrittenHangsOnLastDigitAlone", fn := fun _ => fun
  | [d1, d2, d3, d4] => { results := [.lit (.bool true)], args := [d1, d2, d3, d4] }
  | _ => none }
def fnZeroWrittenHangsOnLastDigitAloneRow : OpenClaim := { program := "qxb6001759a", sum := "09151c1b465aeac0016cab5aefa7b3c226b7171ff8213c5daff16451ca63995c", func := "example.com/tuoguan/tuoguan/zzlaws_pkg_instructions_b1.FnZeroWrittenHangsOnLastDigitAlone", spec := "fnZeroWrittenHangsOnLastDigitAlone", apart := false }
def FnZeroWrittenHangsOnLastDigitAloneSaid : Prop := fnZeroWrittenHangsOnLastDigitAloneRow.holds Try.pinned (OpenSpec.ofChange fnZeroWrittenHangsOnLastDigitAloneSpec)

/-- ITS FALSE NEIGHBOUR: 'it returns false'. Refute it at one input. -/
def fnZeroWrittenHangsOnLastDigitAloneWrong : ChangeSpec := { name := "fnZeroWrittenHangsOnLastDigitAlone", fn := fun _ => fun
  | [d1, d2, d3, d4] => { results := [.lit (.bool false)], args := [d1, d2, d3, d4] }
  | _ => none }
def FnZeroWrittenHangsOnLastDigitAloneWrongFalsely : Prop := fnZeroWrittenHangsOnLastDigitAloneRow.holds Try.pinned (OpenSpec.ofChange fnZeroWrittenHangsOnLastDigitAloneWrong)

/-- 'zzlaws_pkg_instructions_b1.FnZeroWrittenSomeWritingAccepted': WHATEVER THE INPUT: true; the input reads as it did. -/
def fnZeroWrittenSomeWritingAcceptedSpec : ChangeSpec := { name := "fnZeroWrittenSomeWritingAccepted", fn := fun _ => fun
  | [d1, d2, d3] => { results := [.lit (.bool true)], args := [d1, d2, d3] }
  | _ => none }
def fnZeroWrittenSomeWritingAcceptedRow : OpenClaim := { program := "qxb6001759a", sum := "09151c1b465aeac0016cab5aefa7b3c226b7171ff8213c5daff16451ca63995c", func := "example.com/tuoguan/tuoguan/zzlaws_pkg_instructions_b1.FnZeroWrittenSomeWritingAccepted", spec := "fnZeroWrittenSomeWritingAccepted", apart := false }
def FnZeroWrittenSomeWritingAcceptedSaid : Prop := fnZeroWrittenSomeWritingAcceptedRow.holds Try.pinned (OpenSpec.ofChange fnZeroWrittenSomeWritingAcceptedSpec)

/-- ITS FALSE NEIGHBOUR: 'it returns false'. Refute it at one input. -/
def fnZeroWrittenSomeWritingAcceptedWrong : ChangeSpec := { name := "fnZeroWrittenSomeWritingAccepted", fn := fun _ => fun
  | [d1, d2, d3] => { results := [.lit (.bool false)], args := [d1, d2, d3] }
  | _ => none }
def FnZeroWrittenSomeWritingAcceptedWrongFalsely : Prop := fnZeroWrittenSomeWritingAcceptedRow.holds Try.pinned (OpenSpec.ofChange fnZeroWrittenSomeWritingAcceptedWrong)

/-- 'zzlaws_pkg_instructions_b1.FnZeroWrittenMatchesRunRule': WHATEVER THE INPUT: true; the input reads as it did. -/
def fnZeroWrittenMatchesRunRuleSpec : ChangeSpec := { name := "fnZeroWrittenMatchesRunRule", fn := fun _ => fun
  | [d1, d2, d3, d4, d5, d6] => { results := [.lit (.bool true)], args := [d1, d2, d3, d4, d5, d6] }
  | _ => none }
def fnZeroWrittenMatchesRunRuleRow : OpenClaim := { program := "qxb6001759a", sum := "09151c1b465aeac0016cab5aefa7b3c226b7171ff8213c5daff16451ca63995c", func := "example.com/tuoguan/tuoguan/zzlaws_pkg_instructions_b1.FnZeroWrittenMatchesRunRule", spec := "fnZeroWrittenMatchesRunRule", apart := false }
def FnZeroWrittenMatchesRunRuleSaid : Prop := fnZeroWrittenMatchesRunRuleRow.holds Try.pinned (OpenSpec.ofChange fnZeroWrittenMatchesRunRuleSpec)

/-- ITS FALSE NEIGHBOUR: 'it returns false'. Refute it at one input. -/
def fnZeroWrittenMatchesRunRuleWrong : ChangeSpec := { name := "fnZeroWrittenMatchesRunRule", fn := fun _ => fun
  | [d1, d2, d3, d4, d5, d6] => { results := [.lit (.bool false)], args := [d1, d2, d3, d4, d5, d6] }
  | _ => none }
def FnZeroWrittenMatchesRunRuleWrongFalsely : Prop := fnZeroWrittenMatchesRunRuleRow.holds Try.pinned (OpenSpec.ofChange fnZeroWrittenMatchesRunRuleWrong)

/-- 'zzlaws_pkg_instructions_b1.FnPow10IsOneFollowedByNZeros': WHATEVER THE INPUT: true; the input reads as it did. -/
def fnPow10IsOneFollowedByNZerosSpec : ChangeSpec := { name := "fnPow10IsOneFollowedByNZeros", fn := fun _ => fun
  | [d] => { results := [.lit (.bool true)], args := [d] }
  | _ => none }
def fnPow10IsOneFollowedByNZerosRow : OpenClaim := { program := "qxb6001759a", sum := "09151c1b465aeac0016cab5aefa7b3c226b7171ff8213c5daff16451ca63995c", func := "example.com/tuoguan/tuoguan/zzlaws_pkg_instructions_b1.FnPow10IsOneFollowedByNZeros", spec := "fnPow10IsOneFollowedByNZeros", apart := false }
def FnPow10IsOneFollowedByNZerosSaid : Prop := fnPow10IsOneFollowedByNZerosRow.holds Try.pinned (OpenSpec.ofChange fnPow10IsOneFollowedByNZerosSpec)

/-- ITS FALSE NEIGHBOUR: 'it returns false'. Refute it at one input. -/
def fnPow10IsOneFollowedByNZerosWrong : ChangeSpec := { name := "fnPow10IsOneFollowedByNZeros", fn := fun _ => fun
  | [d] => { results := [.lit (.bool false)], args := [d] }
  | _ => none }
def FnPow10IsOneFollowedByNZerosWrongFalsely : Prop := fnPow10IsOneFollowedByNZerosRow.holds Try.pinned (OpenSpec.ofChange fnPow10IsOneFollowedByNZerosWrong)

/-- 'zzlaws_pkg_instructions_b1.FnPow10ExponentsAdd': WHATEVER THE INPUT: true; the input reads as it did. -/
def fnPow10ExponentsAddSpec : ChangeSpec := { name := "fnPow10ExponentsAdd", fn := fun _ => fun
  | [d1, d2] => { results := [.lit (.bool true)], args := [d1, d2] }
  | _ => none }
def fnPow10ExponentsAddRow : OpenClaim := { program := "qxb6001759a", sum := "09151c1b465aeac0016cab5aefa7b3c226b7171ff8213c5daff16451ca63995c", func := "example.com/tuoguan/tuoguan/zzlaws_pkg_instructions_b1.FnPow10ExponentsAdd", spec := "fnPow10ExponentsAdd", apart := false }
def FnPow10ExponentsAddSaid : Prop := fnPow10ExponentsAddRow.holds Try.pinned (OpenSpec.ofChange fnPow10ExponentsAddSpec)

/-- ITS FALSE NEIGHBOUR: 'it returns false'. Refute it at one input. -/
def fnPow10ExponentsAddWrong : ChangeSpec := { name := "fnPow10ExponentsAdd", fn := fun _ => fun
  | [d1, d2] => { results := [.lit (.bool false)], args := [d1, d2] }
  | _ => none }
def FnPow10ExponentsAddWrongFalsely : Prop := fnPow10ExponentsAddRow.holds Try.pinned (OpenSpec.ofChange fnPow10ExponentsAddWrong)

end Rows
end Go.Proofs.Qxb6001759a
