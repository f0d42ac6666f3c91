/-
  No cell of these rows narrows 'for every input' (looked for: loops, veiled, ifaces, maps, wideKeys, modest, calm, conditions, laid).
  DERIVED. THE GIVEN ROWS OF THIS SEAT. 4 by the template 'for every input the law returns true; each argument reads behind the call as it read before'; 0 by the template 'total and deterministic' (their statements: Qxb6601457aTotals.lean).
  GIVEN WITH THE SEED: the statements are not yours to turn. If you find one false, say at which input.
  Laid BY PROGRAM, IN A SANDBOX (cutbox-rows.mjs): the forced cells as the released guide's own fill.sh prints them over the translation 7b41a4ccb9d4981e… (all of the seat's roots in one cut). By AI agents, Wed Nov 11 2026. No macro, syntax, notation, axiom, sorry.
-/
import Derived.Test.Qxb6601457aChecked
import GoSem.Claim
import GoSem.ClaimJoined
import GoSem.ClaimMapViews
import Derived.JoinedTies
import Derived.KernelRfl
namespace Go.Proofs.Qxb6601457a
/- THE CELL 'sum', in the pinned program and in every row, IS THE sha256 OF THE DUMP (.gsa) THAT Qxb6601457aProg.lean LOADS. Nothing in Lean hashes anything: it is a label: what it is worth is what the hold of that sum in a sandbox is worth. -/
noncomputable def Try.pinned : Pinned := { name := "qxb6601457a", sum := "7b41a4ccb9d4981ec2ead53a71ee41bf49bd18551780b09c1796ac14424758a8", checked := Try.checked }
namespace Rows
def none {H : Type} : Left H := { results := [], args := [] }

/-- 'zzlaws_route_b1.FnPopTakesTheBestAndKeepsAHeap': WHATEVER THE INPUT: true; the input reads as it did. -/
def fnPopTakesTheBestAndKeepsAHeapSpec : ChangeSpec := { name := "fnPopTakesTheBestAndKeepsAHeap", fn := fun _ => fun
  | [d] => { results := [.lit (.bool true)], args := [d] }
  | _ => none }
def fnPopTakesTheBestAndKeepsAHeapRow : OpenClaim := { program := "qxb6601457a", sum := "7b41a4ccb9d4981ec2ead53a71ee41bf49bd18551780b09c1796ac14424758a8", func := "example.com/pathweave/pathweave/zzlaws_route_b1.FnPopTakesTheBestAndKeepsAHeap", spec := "fnPopTakesTheBestAndKeepsAHeap", apart := false }
def FnPopTakesTheBestAndKeepsAHeapSaid : Prop := fnPopTakesTheBestAndKeepsAHeapRow.holds Try.pinned (OpenSpec.ofChange fnPopTakesTheBestAndKeepsAHeapSpec)

/-- ITS FALSE NEIGHBOUR: 'it returns false'. Refute it at one input. -/
def fnPopTakesTheBestAndKeepsAHeapWrong : ChangeSpec := { name := "fnPopTakesTheBestAndKeepsAHeap", fn := fun _ => fun
  | [d] => { results := [.lit (.bool false)], args := [d] }
  | _ => none }
def FnPopTakesTheBestAndKeepsAHeapWrongFalsely : Prop := fnPopTakesTheBestAndKeepsAHeapRow.holds Try.pinned (OpenSpec.ofChange fnPopTakesTheBestAndKeepsAHeapWrong)

/-- 'zzlaws_route_b1.FnPopDrainsASortedQueueInRankOrder': WHATEVER THE INPUT: true; the input reads as it did. -/
def fnPopDrainsASortedQueueInRankOrderSpec : ChangeSpec := { name := "fnPopDrainsASortedQueueInRankOrder", fn := fun _ => fun
  | [d] => { results := [.lit (.bool true)], args := [d] }
  | _ => none }
def fnPopDrainsASortedQueueInRankOrderRow : OpenClaim := { program := "qxb6601457a", sum := "7b41a4ccb9d4981ec2ead53a71ee41bf49bd18551780b09c1796ac14424758a8", func := "example.com/pathweave/pathweave/zzlaws_route_b1.FnPopDrainsASortedQueueInRankOrder", spec := "fnPopDrainsASortedQueueInRankOrder", apart := false }
def FnPopDrainsASortedQueueInRankOrderSaid : Prop := fnPopDrainsASortedQueueInRankOrderRow.holds Try.pinned (OpenSpec.ofChange fnPopDrainsASortedQueueInRankOrderSpec)

/-- ITS FALSE NEIGHBOUR: 'it returns false'. Refute it at one input. -/
def fnPopDrainsASortedQueueInRankOrderWrong : ChangeSpec := { name := "fnPopDrainsASortedQueueInRankOrder", fn := fun _ => fun
  | [d] => { results := [.lit (.bool false)], args := [d] }
  | _ => none }
def FnPopDrainsASortedQueueInRankOrderWrongFalsely : Prop := fnPopDrainsASortedQueueInRankOrderRow.holds Try.pinned (OpenSpec.ofChange fnPopDrainsASortedQueueInRankOrderWrong)

/-- 'zzlaws_route_b1.FnKeepAddsUnlessMatchedDropsWhatItMatches': WHATEVER THE INPUT: true; the input reads as it did. -/
def fnKeepAddsUnlessMatchedDropsWhatItMatchesSpec : ChangeSpec := { name := "fnKeepAddsUnlessMatchedDropsWhatItMatches", fn := fun _ => fun
  | [d1, d2, d3, d4, d5] => { results := [.lit (.bool true)], args := [d1, d2, d3, d4, d5] }
  | _ => none }
def fnKeepAddsUnlessMatchedDropsWhatItMatchesRow : OpenClaim := { program := "qxb6601457a", sum := "7b41a4ccb9d4981ec2ead53a71ee41bf49bd18551780b09c1796ac14424758a8", func := "example.com/pathweave/pathweave/zzlaws_route_b1.FnKeepAddsUnlessMatchedDropsWhatItMatches", spec := "fnKeepAddsUnlessMatchedDropsWhatItMatches", apart := false }
def FnKeepAddsUnlessMatchedDropsWhatItMatchesSaid : Prop := fnKeepAddsUnlessMatchedDropsWhatItMatchesRow.holds Try.pinned (OpenSpec.ofChange fnKeepAddsUnlessMatchedDropsWhatItMatchesSpec)

/-- ITS FALSE NEIGHBOUR: 'it returns false'. Refute it at one input. -/
def fnKeepAddsUnlessMatchedDropsWhatItMatchesWrong : ChangeSpec := { name := "fnKeepAddsUnlessMatchedDropsWhatItMatches", fn := fun _ => fun
  | [d1, d2, d3, d4, d5] => { results := [.lit (.bool false)], args := [d1, d2, d3, d4, d5] }
  | _ => none }
def FnKeepAddsUnlessMatchedDropsWhatItMatchesWrongFalsely : Prop := fnKeepAddsUnlessMatchedDropsWhatItMatchesRow.holds Try.pinned (OpenSpec.ofChange fnKeepAddsUnlessMatchedDropsWhatItMatchesWrong)

/-- 'zzlaws_route_b1.FnKeepScriptHoldsTheFirstParetoFront': WHATEVER THE INPUT: true; the input reads as it did. -/
def fnKeepScriptHoldsTheFirstParetoFrontSpec : ChangeSpec := { name := "fnKeepScriptHoldsTheFirstParetoFront", fn := fun _ => fun
  | [d] => { results := [.lit (.bool true)], args := [d] }
  | _ => none }
def fnKeepScriptHoldsTheFirstParetoFrontRow : OpenClaim := { program := "qxb6601457a", sum := "7b41a4ccb9d4981ec2ead53a71ee41bf49bd18551780b09c1796ac14424758a8", func := "example.com/pathweave/pathweave/zzlaws_route_b1.FnKeepScriptHoldsTheFirstParetoFront", spec := "fnKeepScriptHoldsTheFirstParetoFront", apart := false }
def FnKeepScriptHoldsTheFirstParetoFrontSaid : Prop := fnKeepScriptHoldsTheFirstParetoFrontRow.holds Try.pinned (OpenSpec.ofChange fnKeepScriptHoldsTheFirstParetoFrontSpec)

/-- ITS FALSE NEIGHBOUR: 'it returns false'. Refute it at one input. -/
def fnKeepScriptHoldsTheFirstParetoFrontWrong : ChangeSpec := { name := "fnKeepScriptHoldsTheFirstParetoFront", fn := fun _ => fun
  | [d] => { results := [.lit (.bool false)], args := [d] }
  | _ => none }
def FnKeepScriptHoldsTheFirstParetoFrontWrongFalsely : Prop := fnKeepScriptHoldsTheFirstParetoFrontRow.holds Try.pinned (OpenSpec.ofChange fnKeepScriptHoldsTheFirstParetoFrontWrong)

end Rows
end Go.Proofs.Qxb6601457a
