/-
  No cell of these rows narrows 'for every input' (looked for: loops, veiled, ifaces, maps, wideKeys, modest, calm, conditions, laid).
  DERIVED. THE GIVEN ROWS OF THIS SEAT. 4 by the template 'for every input the law returns true; each argument reads behind the call as it read before'; 0 by the template 'total and deterministic' (their statements: Qxb6602956aTotals.lean).
  GIVEN WITH THE SEED: the statements are not yours to turn. If you find one false, say at which input.
  Laid BY PROGRAM, IN A SANDBOX (cutbox-rows.mjs): the forced cells as the released guide's own fill.sh prints them over the translation 1f76b0eda12817ac… (all of the seat's roots in one cut). By AI agents, Wed Nov 11 2026. No macro, syntax, notation, axiom, sorry.
-/
import Derived.Test.Qxb6602956aChecked
import GoSem.Claim
import GoSem.ClaimJoined
import GoSem.ClaimMapViews
import Derived.JoinedTies
import Derived.KernelRfl
namespace Go.Proofs.Qxb6602956a
/- THE CELL 'sum', in the pinned program and in every row, IS THE sha256 OF THE DUMP (.gsa) THAT Qxb6602956aProg.lean LOADS. Nothing in Lean hashes anything: it is a label: what it is worth is what the hold of that sum in a sandbox is worth. -/
noncomputable def Try.pinned : Pinned := { name := "qxb6602956a", sum := "1f76b0eda12817ac20c75e3e1913f87fe45bac2e2cd860dd8d790ef7c80844b2", checked := Try.checked }
namespace Rows
def none {H : Type} : Left H := { results := [], args := [] }

/-- 'zzlaws_pkg_token_b1.FnReachesOverJoinedLineage': WHATEVER THE INPUT: true; the input reads as it did. -/
def fnReachesOverJoinedLineageSpec : ChangeSpec := { name := "fnReachesOverJoinedLineage", fn := fun _ => fun
  | [d1, d2, d3, d4] => { results := [.lit (.bool true)], args := [d1, d2, d3, d4] }
  | _ => none }
def fnReachesOverJoinedLineageRow : OpenClaim := { program := "qxb6602956a", sum := "1f76b0eda12817ac20c75e3e1913f87fe45bac2e2cd860dd8d790ef7c80844b2", func := "example.com/lean-tiers/lean-tiers/zzlaws_pkg_token_b1.FnReachesOverJoinedLineage", spec := "fnReachesOverJoinedLineage", apart := false }
def FnReachesOverJoinedLineageSaid : Prop := fnReachesOverJoinedLineageRow.holds Try.pinned (OpenSpec.ofChange fnReachesOverJoinedLineageSpec)

/-- ITS FALSE NEIGHBOUR: 'it returns false'. Refute it at one input. -/
def fnReachesOverJoinedLineageWrong : ChangeSpec := { name := "fnReachesOverJoinedLineage", fn := fun _ => fun
  | [d1, d2, d3, d4] => { results := [.lit (.bool false)], args := [d1, d2, d3, d4] }
  | _ => none }
def FnReachesOverJoinedLineageWrongFalsely : Prop := fnReachesOverJoinedLineageRow.holds Try.pinned (OpenSpec.ofChange fnReachesOverJoinedLineageWrong)

/-- 'zzlaws_pkg_token_b1.FnReachesOwnSubtreeNotAbove': WHATEVER THE INPUT: true; the input reads as it did. -/
def fnReachesOwnSubtreeNotAboveSpec : ChangeSpec := { name := "fnReachesOwnSubtreeNotAbove", fn := fun _ => fun
  | [d1, d2, d3] => { results := [.lit (.bool true)], args := [d1, d2, d3] }
  | _ => none }
def fnReachesOwnSubtreeNotAboveRow : OpenClaim := { program := "qxb6602956a", sum := "1f76b0eda12817ac20c75e3e1913f87fe45bac2e2cd860dd8d790ef7c80844b2", func := "example.com/lean-tiers/lean-tiers/zzlaws_pkg_token_b1.FnReachesOwnSubtreeNotAbove", spec := "fnReachesOwnSubtreeNotAbove", apart := false }
def FnReachesOwnSubtreeNotAboveSaid : Prop := fnReachesOwnSubtreeNotAboveRow.holds Try.pinned (OpenSpec.ofChange fnReachesOwnSubtreeNotAboveSpec)

/-- ITS FALSE NEIGHBOUR: 'it returns false'. Refute it at one input. -/
def fnReachesOwnSubtreeNotAboveWrong : ChangeSpec := { name := "fnReachesOwnSubtreeNotAbove", fn := fun _ => fun
  | [d1, d2, d3] => { results := [.lit (.bool false)], args := [d1, d2, d3] }
  | _ => none }
def FnReachesOwnSubtreeNotAboveWrongFalsely : Prop := fnReachesOwnSubtreeNotAboveRow.holds Try.pinned (OpenSpec.ofChange fnReachesOwnSubtreeNotAboveWrong)

/-- 'zzlaws_pkg_token_b1.FnReachesComparesOnlyAtDepth': WHATEVER THE INPUT: true; the input reads as it did. -/
def fnReachesComparesOnlyAtDepthSpec : ChangeSpec := { name := "fnReachesComparesOnlyAtDepth", fn := fun _ => fun
  | [d1, d2, d3, d4, d5] => { results := [.lit (.bool true)], args := [d1, d2, d3, d4, d5] }
  | _ => none }
def fnReachesComparesOnlyAtDepthRow : OpenClaim := { program := "qxb6602956a", sum := "1f76b0eda12817ac20c75e3e1913f87fe45bac2e2cd860dd8d790ef7c80844b2", func := "example.com/lean-tiers/lean-tiers/zzlaws_pkg_token_b1.FnReachesComparesOnlyAtDepth", spec := "fnReachesComparesOnlyAtDepth", apart := false }
def FnReachesComparesOnlyAtDepthSaid : Prop := fnReachesComparesOnlyAtDepthRow.holds Try.pinned (OpenSpec.ofChange fnReachesComparesOnlyAtDepthSpec)

/-- ITS FALSE NEIGHBOUR: 'it returns false'. Refute it at one input. -/
def fnReachesComparesOnlyAtDepthWrong : ChangeSpec := { name := "fnReachesComparesOnlyAtDepth", fn := fun _ => fun
  | [d1, d2, d3, d4, d5] => { results := [.lit (.bool false)], args := [d1, d2, d3, d4, d5] }
  | _ => none }
def FnReachesComparesOnlyAtDepthWrongFalsely : Prop := fnReachesComparesOnlyAtDepthRow.holds Try.pinned (OpenSpec.ofChange fnReachesComparesOnlyAtDepthWrong)

/-- 'zzlaws_pkg_token_b1.FnPackAppendsStayApart': WHATEVER THE INPUT: true; the input reads as it did. -/
def fnPackAppendsStayApartSpec : ChangeSpec := { name := "fnPackAppendsStayApart", fn := fun _ => fun
  | [d1, d2, d3, d4, d5, d6, d7, d8, d9, d10] => { results := [.lit (.bool true)], args := [d1, d2, d3, d4, d5, d6, d7, d8, d9, d10] }
  | _ => none }
def fnPackAppendsStayApartRow : OpenClaim := { program := "qxb6602956a", sum := "1f76b0eda12817ac20c75e3e1913f87fe45bac2e2cd860dd8d790ef7c80844b2", func := "example.com/lean-tiers/lean-tiers/zzlaws_pkg_token_b1.FnPackAppendsStayApart", spec := "fnPackAppendsStayApart", inPlace := ["internal/abi.NoEscape", "internal/bytealg.MakeNoZero"], apart := false }
def FnPackAppendsStayApartSaid : Prop := fnPackAppendsStayApartRow.holds Try.pinned (OpenSpec.ofChange fnPackAppendsStayApartSpec)

/-- ITS FALSE NEIGHBOUR: 'it returns false'. Refute it at one input. -/
def fnPackAppendsStayApartWrong : ChangeSpec := { name := "fnPackAppendsStayApart", fn := fun _ => fun
  | [d1, d2, d3, d4, d5, d6, d7, d8, d9, d10] => { results := [.lit (.bool false)], args := [d1, d2, d3, d4, d5, d6, d7, d8, d9, d10] }
  | _ => none }
def FnPackAppendsStayApartWrongFalsely : Prop := fnPackAppendsStayApartRow.holds Try.pinned (OpenSpec.ofChange fnPackAppendsStayApartWrong)

end Rows
end Go.Proofs.Qxb6602956a
