/-
  No cell of these rows narrows 'for every input' (looked for: loops, veiled, ifaces, maps, wideKeys, modest, calm, conditions, laid).
  DERIVED. THE GIVEN ROWS OF THIS SEAT. 2 by the template 'for every input the law returns true; each argument reads behind the call as it read before'; 0 by the template 'total and deterministic' (their statements: Qxb6003311aTotals.lean).
  GIVEN WITH THE SEED: the statements are not yours to turn. If you find one false, say at which input.
  Laid BY PROGRAM, IN A SANDBOX (cutbox-rows.mjs): the forced cells as the released guide's own fill.sh prints them over the translation f22b593c259d1fab… (all of the seat's roots in one cut). By AI agents, Wed Nov 11 2026. No macro, syntax, notation, axiom, sorry.
-/
import Derived.Test.Qxb6003311aChecked
import GoSem.Claim
import GoSem.ClaimJoined
import GoSem.ClaimMapViews
import Derived.JoinedTies
import Derived.KernelRfl
namespace Go.Proofs.Qxb6003311a
/- THE CELL 'sum', in the pinned program and in every row, IS THE sha256 OF THE DUMP (.gsa) THAT Qxb6003311aProg.lean LOADS. Nothing in Lean hashes anything: it is a label: what it is worth is what the hold of that sum in a sandbox is worth. -/
noncomputable def Try.pinned : Pinned := { name := "qxb6003311a", sum := "f22b593c259d1fab8462386df18fb899b258b3e2d9e8149702e8e216e8af305f", checked := Try.checked }
namespace Rows
def none {H : Type} : Left H := { results := [], args := [] }

/-- 'zzlaws_adversary_c1.PropMostReplacedIsGreatestThatCanJoin': WHATEVER THE INPUT: true; the input reads as it did. -/
def propMostReplacedIsGreatestThatCanJoinSpec : ChangeSpec := { name := "propMostReplacedIsGreatestThatCanJoin", fn := fun _ => fun
  | [d1, d2] => { results := [.lit (.bool true)], args := [d1, d2] }
  | _ => none }
def propMostReplacedIsGreatestThatCanJoinRow : OpenClaim := { program := "qxb6003311a", sum := "f22b593c259d1fab8462386df18fb899b258b3e2d9e8149702e8e216e8af305f", func := "example.com/churnweave/churnweave/zzlaws_adversary_c1.PropMostReplacedIsGreatestThatCanJoin", spec := "propMostReplacedIsGreatestThatCanJoin", apart := false }
def PropMostReplacedIsGreatestThatCanJoinSaid : Prop := propMostReplacedIsGreatestThatCanJoinRow.holds Try.pinned (OpenSpec.ofChange propMostReplacedIsGreatestThatCanJoinSpec)

/-- ITS FALSE NEIGHBOUR: 'it returns false'. Refute it at one input. -/
def propMostReplacedIsGreatestThatCanJoinWrong : ChangeSpec := { name := "propMostReplacedIsGreatestThatCanJoin", fn := fun _ => fun
  | [d1, d2] => { results := [.lit (.bool false)], args := [d1, d2] }
  | _ => none }
def PropMostReplacedIsGreatestThatCanJoinWrongFalsely : Prop := propMostReplacedIsGreatestThatCanJoinRow.holds Try.pinned (OpenSpec.ofChange propMostReplacedIsGreatestThatCanJoinWrong)

/-- 'zzlaws_adversary_c1.PropReplaceKeepsEntryRuleAndPresent': WHATEVER THE INPUT: true; the input reads as it did. -/
def propReplaceKeepsEntryRuleAndPresentSpec : ChangeSpec := { name := "propReplaceKeepsEntryRuleAndPresent", fn := fun _ => fun
  | [d1, d2, d3, d4, d5, d6] => { results := [.lit (.bool true)], args := [d1, d2, d3, d4, d5, d6] }
  | _ => none }
def propReplaceKeepsEntryRuleAndPresentRow : OpenClaim := { program := "qxb6003311a", sum := "f22b593c259d1fab8462386df18fb899b258b3e2d9e8149702e8e216e8af305f", func := "example.com/churnweave/churnweave/zzlaws_adversary_c1.PropReplaceKeepsEntryRuleAndPresent", spec := "propReplaceKeepsEntryRuleAndPresent", unfollowed := true, recurses := true, apart := false }
def PropReplaceKeepsEntryRuleAndPresentSaid : Prop := propReplaceKeepsEntryRuleAndPresentRow.holds Try.pinned (OpenSpec.ofChange propReplaceKeepsEntryRuleAndPresentSpec)

/-- ITS FALSE NEIGHBOUR: 'it returns false'. Refute it at one input. -/
def propReplaceKeepsEntryRuleAndPresentWrong : ChangeSpec := { name := "propReplaceKeepsEntryRuleAndPresent", fn := fun _ => fun
  | [d1, d2, d3, d4, d5, d6] => { results := [.lit (.bool false)], args := [d1, d2, d3, d4, d5, d6] }
  | _ => none }
def PropReplaceKeepsEntryRuleAndPresentWrongFalsely : Prop := propReplaceKeepsEntryRuleAndPresentRow.holds Try.pinned (OpenSpec.ofChange propReplaceKeepsEntryRuleAndPresentWrong)

end Rows
end Go.Proofs.Qxb6003311a
