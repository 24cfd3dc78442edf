/-
  No cell of these rows narrows 'for every input' (looked for: loops, veiled, ifaces, maps, wideKeys, modest, calm, conditions, laid).
  DERIVED. THE GIVEN ROWS OF THIS SEAT. 3 by the template 'for every input the law returns true; each argument reads behind the call as it read before'; 0 by the template 'total and deterministic' (their statements: Qxb6604658aTotals.lean).
  GIVEN WITH THE SEED: the statements are not yours to turn. If you find one false, say at which input.
  Laid BY PROGRAM, IN A SANDBOX (cutbox-rows.mjs): the forced cells as the released guide's own fill.sh prints them over the translation 6f75717d1bbf6fd1… (all of the seat's roots in one cut). By AI agents, Wed Nov 11 2026. No macro, syntax, notation, axiom, sorry.
-/
import Derived.Test.Qxb6604658aChecked
import GoSem.Claim
import GoSem.ClaimJoined
import GoSem.ClaimMapViews
import Derived.JoinedTies
import Derived.KernelRfl
namespace Go.Proofs.Qxb6604658a
/- THE CELL 'sum', in the pinned program and in every row, IS THE sha256 OF THE DUMP (.gsa) THAT Qxb6604658aProg.lean LOADS. Nothing in Lean hashes anything: it is a label: what it is worth is what the hold of that sum in a sandbox is worth. -/
noncomputable def Try.pinned : Pinned := { name := "qxb6604658a", sum := "6f75717d1bbf6fd16f295a473d7dc621d653b9ab2440bdb136f90db74a458e5d", checked := Try.checked }
namespace Rows
def none {H : Type} : Left H := { results := [], args := [] }

/-- 'zzlaws_engine_b1.FnWayOfAgreesWithDirectionName': WHATEVER THE INPUT: true; the input reads as it did. -/
def fnWayOfAgreesWithDirectionNameSpec : ChangeSpec := { name := "fnWayOfAgreesWithDirectionName", fn := fun _ => fun
  | [d] => { results := [.lit (.bool true)], args := [d] }
  | _ => none }
def fnWayOfAgreesWithDirectionNameRow : OpenClaim := { program := "qxb6604658a", sum := "6f75717d1bbf6fd16f295a473d7dc621d653b9ab2440bdb136f90db74a458e5d", func := "example.com/whale/whale/zzlaws_engine_b1.FnWayOfAgreesWithDirectionName", spec := "fnWayOfAgreesWithDirectionName", plainKeys := false, apart := false }
def FnWayOfAgreesWithDirectionNameSaid : Prop := fnWayOfAgreesWithDirectionNameRow.holds Try.pinned (OpenSpec.ofChange fnWayOfAgreesWithDirectionNameSpec)

/-- ITS FALSE NEIGHBOUR: 'it returns false'. Refute it at one input. -/
def fnWayOfAgreesWithDirectionNameWrong : ChangeSpec := { name := "fnWayOfAgreesWithDirectionName", fn := fun _ => fun
  | [d] => { results := [.lit (.bool false)], args := [d] }
  | _ => none }
def FnWayOfAgreesWithDirectionNameWrongFalsely : Prop := fnWayOfAgreesWithDirectionNameRow.holds Try.pinned (OpenSpec.ofChange fnWayOfAgreesWithDirectionNameWrong)

/-- 'zzlaws_engine_b1.FnQueueFixByDueRestoresHeap': WHATEVER THE INPUT: true; the input reads as it did. -/
def fnQueueFixByDueRestoresHeapSpec : ChangeSpec := { name := "fnQueueFixByDueRestoresHeap", fn := fun _ => fun
  | [d1, d2, d3] => { results := [.lit (.bool true)], args := [d1, d2, d3] }
  | _ => none }
def fnQueueFixByDueRestoresHeapRow : OpenClaim := { program := "qxb6604658a", sum := "6f75717d1bbf6fd16f295a473d7dc621d653b9ab2440bdb136f90db74a458e5d", func := "example.com/whale/whale/zzlaws_engine_b1.FnQueueFixByDueRestoresHeap", spec := "fnQueueFixByDueRestoresHeap", unfollowed := true, recurses := true, plainKeys := false, apart := false }
def FnQueueFixByDueRestoresHeapSaid : Prop := fnQueueFixByDueRestoresHeapRow.holds Try.pinned (OpenSpec.ofChange fnQueueFixByDueRestoresHeapSpec)

/-- ITS FALSE NEIGHBOUR: 'it returns false'. Refute it at one input. -/
def fnQueueFixByDueRestoresHeapWrong : ChangeSpec := { name := "fnQueueFixByDueRestoresHeap", fn := fun _ => fun
  | [d1, d2, d3] => { results := [.lit (.bool false)], args := [d1, d2, d3] }
  | _ => none }
def FnQueueFixByDueRestoresHeapWrongFalsely : Prop := fnQueueFixByDueRestoresHeapRow.holds Try.pinned (OpenSpec.ofChange fnQueueFixByDueRestoresHeapWrong)

/-- 'zzlaws_engine_b1.FnQueueFixByCeilingRestoresHeap': WHATEVER THE INPUT: true; the input reads as it did. -/
def fnQueueFixByCeilingRestoresHeapSpec : ChangeSpec := { name := "fnQueueFixByCeilingRestoresHeap", fn := fun _ => fun
  | [d1, d2, d3] => { results := [.lit (.bool true)], args := [d1, d2, d3] }
  | _ => none }
def fnQueueFixByCeilingRestoresHeapRow : OpenClaim := { program := "qxb6604658a", sum := "6f75717d1bbf6fd16f295a473d7dc621d653b9ab2440bdb136f90db74a458e5d", func := "example.com/whale/whale/zzlaws_engine_b1.FnQueueFixByCeilingRestoresHeap", spec := "fnQueueFixByCeilingRestoresHeap", unfollowed := true, recurses := true, plainKeys := false, apart := false }
def FnQueueFixByCeilingRestoresHeapSaid : Prop := fnQueueFixByCeilingRestoresHeapRow.holds Try.pinned (OpenSpec.ofChange fnQueueFixByCeilingRestoresHeapSpec)

/-- ITS FALSE NEIGHBOUR: 'it returns false'. Refute it at one input. -/
def fnQueueFixByCeilingRestoresHeapWrong : ChangeSpec := { name := "fnQueueFixByCeilingRestoresHeap", fn := fun _ => fun
  | [d1, d2, d3] => { results := [.lit (.bool false)], args := [d1, d2, d3] }
  | _ => none }
def FnQueueFixByCeilingRestoresHeapWrongFalsely : Prop := fnQueueFixByCeilingRestoresHeapRow.holds Try.pinned (OpenSpec.ofChange fnQueueFixByCeilingRestoresHeapWrong)

end Rows
end Go.Proofs.Qxb6604658a
