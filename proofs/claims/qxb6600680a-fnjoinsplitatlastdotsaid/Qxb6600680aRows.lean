/-
  No cell of these rows narrows 'for every input' (looked for: loops, veiled, ifaces, maps, wideKeys, modest, calm, conditions, laid).
  DERIVED. THE GIVEN ROWS OF THIS SEAT. 2 by the template 'for every input the law returns true; each argument reads behind the call as it read before'; 0 by the template 'total and deterministic' (their statements: Qxb6600680aTotals.lean).
  GIVEN WITH THE SEED: the statements are not yours to turn. If you find one false, say at which input.
  Laid BY PROGRAM, IN A SANDBOX (cutbox-rows.mjs): the forced cells as the released guide's own fill.sh prints them over the translation 2258d25f73cdd320… (all of the seat's roots in one cut). By AI agents, Wed Nov 11 2026. No macro, syntax, notation, axiom, sorry.
-/
import Derived.Test.Qxb6600680aChecked
import GoSem.Claim
import GoSem.ClaimJoined
import GoSem.ClaimMapViews
import Derived.JoinedTies
import Derived.KernelRfl
namespace Go.Proofs.Qxb6600680a
/- THE CELL 'sum', in the pinned program and in every row, IS THE sha256 OF THE DUMP (.gsa) THAT Qxb6600680aProg.lean LOADS. Nothing in Lean hashes anything: it is a label: what it is worth is what the hold of that sum in a sandbox is worth. -/
noncomputable def Try.pinned : Pinned := { name := "qxb6600680a", sum := "2258d25f73cdd32077f2fb0e53344a17f5a0139e531ab77b3c897d165e7f1cc2", checked := Try.checked }
namespace Rows
def none {H : Type} : Left H := { results := [], args := [] }

/-- 'zzlaws_internal_yamldoc_b1.FnJoinAssociative': WHATEVER THE INPUT: true; the input reads as it did. -/
def fnJoinAssociativeSpec : ChangeSpec := { name := "fnJoinAssociative", fn := fun _ => fun
  | [d1, d2, d3] => { results := [.lit (.bool true)], args := [d1, d2, d3] }
  | _ => none }
def fnJoinAssociativeRow : OpenClaim := { program := "qxb6600680a", sum := "2258d25f73cdd32077f2fb0e53344a17f5a0139e531ab77b3c897d165e7f1cc2", func := "example.com/tranchework/tranchework/zzlaws_internal_yamldoc_b1.FnJoinAssociative", spec := "fnJoinAssociative", apart := false }
def FnJoinAssociativeSaid : Prop := fnJoinAssociativeRow.holds Try.pinned (OpenSpec.ofChange fnJoinAssociativeSpec)

/-- ITS FALSE NEIGHBOUR: 'it returns false'. Refute it at one input. -/
def fnJoinAssociativeWrong : ChangeSpec := { name := "fnJoinAssociative", fn := fun _ => fun
  | [d1, d2, d3] => { results := [.lit (.bool false)], args := [d1, d2, d3] }
  | _ => none }
def FnJoinAssociativeWrongFalsely : Prop := fnJoinAssociativeRow.holds Try.pinned (OpenSpec.ofChange fnJoinAssociativeWrong)

/-- 'zzlaws_internal_yamldoc_b1.FnJoinSplitAtLastDot': WHATEVER THE INPUT: true; the input reads as it did. -/
def fnJoinSplitAtLastDotSpec : ChangeSpec := { name := "fnJoinSplitAtLastDot", fn := fun _ => fun
  | [d1, d2] => { results := [.lit (.bool true)], args := [d1, d2] }
  | _ => none }
def fnJoinSplitAtLastDotRow : OpenClaim := { program := "qxb6600680a", sum := "2258d25f73cdd32077f2fb0e53344a17f5a0139e531ab77b3c897d165e7f1cc2", func := "example.com/tranchework/tranchework/zzlaws_internal_yamldoc_b1.FnJoinSplitAtLastDot", spec := "fnJoinSplitAtLastDot", apart := false }
def FnJoinSplitAtLastDotSaid : Prop := fnJoinSplitAtLastDotRow.holds Try.pinned (OpenSpec.ofChange fnJoinSplitAtLastDotSpec)

/-- ITS FALSE NEIGHBOUR: 'it returns false'. Refute it at one input. -/
def fnJoinSplitAtLastDotWrong : ChangeSpec := { name := "fnJoinSplitAtLastDot", fn := fun _ => fun
  | [d1, d2] => { results := [.lit (.bool false)], args := [d1, d2] }
  | _ => none }
def FnJoinSplitAtLastDotWrongFalsely : Prop := fnJoinSplitAtLastDotRow.holds Try.pinned (OpenSpec.ofChange fnJoinSplitAtLastDotWrong)

end Rows
end Go.Proofs.Qxb6600680a
