/-
  No cell of these rows narrows 'for every input' (looked for: loops, veiled, ifaces, maps, wideKeys, modest, calm, conditions, laid).
  DERIVED. THE GIVEN ROWS OF THIS SEAT. 7 by the template 'for every input the law returns true; each argument reads behind the call as it read before'; 0 by the template 'total and deterministic' (their statements: Qxb6601655aTotals.lean).
  GIVEN WITH THE SEED: the statements are not yours to turn. If you find one false, say at which input.
  Laid BY PROGRAM, IN A SANDBOX (cutbox-rows.mjs): the forced cells as the released guide's own fill.sh prints them over the translation 416120ca9c071434… (all of the seat's roots in one cut). By AI agents, Wed Nov 11 2026. No macro, syntax, notation, axiom, sorry.
-/
import Derived.Test.Qxb6601655aChecked
import GoSem.Claim
import GoSem.ClaimJoined
import GoSem.ClaimMapViews
import Derived.JoinedTies
import Derived.KernelRfl
namespace Go.Proofs.Qxb6601655a
/- THE CELL 'sum', in the pinned program and in every row, IS THE sha256 OF THE DUMP (.gsa) THAT Qxb6601655aProg.lean LOADS. Nothing in Lean hashes anything: it is a label: what it is worth is what the hold of that sum in a sandbox is worth. -/
noncomputable def Try.pinned : Pinned := { name := "qxb6601655a", sum := "416120ca9c0714342f9ccf0dca9005476c28ce3829fedb089d226c468d8701a1", checked := Try.checked }
namespace Rows
def none {H : Type} : Left H := { results := [], args := [] }

/-- 'zzlaws_engine_b1.FnAddIntsExact': WHATEVER THE INPUT: true; the input reads as it did. -/
def fnAddIntsExactSpec : ChangeSpec := { name := "fnAddIntsExact", fn := fun _ => fun
  | [d1, d2, d3] => { results := [.lit (.bool true)], args := [d1, d2, d3] }
  | _ => none }
def fnAddIntsExactRow : OpenClaim := { program := "qxb6601655a", sum := "416120ca9c0714342f9ccf0dca9005476c28ce3829fedb089d226c468d8701a1", func := "example.com/gapwarden/gapwarden/zzlaws_engine_b1.FnAddIntsExact", spec := "fnAddIntsExact", apart := false }
def FnAddIntsExactSaid : Prop := fnAddIntsExactRow.holds Try.pinned (OpenSpec.ofChange fnAddIntsExactSpec)

/-- ITS FALSE NEIGHBOUR: 'it returns false'. Refute it at one input. -/
def fnAddIntsExactWrong : ChangeSpec := { name := "fnAddIntsExact", fn := fun _ => fun
  | [d1, d2, d3] => { results := [.lit (.bool false)], args := [d1, d2, d3] }
  | _ => none }
def FnAddIntsExactWrongFalsely : Prop := fnAddIntsExactRow.holds Try.pinned (OpenSpec.ofChange fnAddIntsExactWrong)

/-- 'zzlaws_engine_b1.FnAddIntsUndo': WHATEVER THE INPUT: true; the input reads as it did. -/
def fnAddIntsUndoSpec : ChangeSpec := { name := "fnAddIntsUndo", fn := fun _ => fun
  | [d1, d2, d3] => { results := [.lit (.bool true)], args := [d1, d2, d3] }
  | _ => none }
def fnAddIntsUndoRow : OpenClaim := { program := "qxb6601655a", sum := "416120ca9c0714342f9ccf0dca9005476c28ce3829fedb089d226c468d8701a1", func := "example.com/gapwarden/gapwarden/zzlaws_engine_b1.FnAddIntsUndo", spec := "fnAddIntsUndo", apart := false }
def FnAddIntsUndoSaid : Prop := fnAddIntsUndoRow.holds Try.pinned (OpenSpec.ofChange fnAddIntsUndoSpec)

/-- ITS FALSE NEIGHBOUR: 'it returns false'. Refute it at one input. -/
def fnAddIntsUndoWrong : ChangeSpec := { name := "fnAddIntsUndo", fn := fun _ => fun
  | [d1, d2, d3] => { results := [.lit (.bool false)], args := [d1, d2, d3] }
  | _ => none }
def FnAddIntsUndoWrongFalsely : Prop := fnAddIntsUndoRow.holds Try.pinned (OpenSpec.ofChange fnAddIntsUndoWrong)

/-- 'zzlaws_engine_b1.FnAddIntsCommuteAndNegate': WHATEVER THE INPUT: true; the input reads as it did. -/
def fnAddIntsCommuteAndNegateSpec : ChangeSpec := { name := "fnAddIntsCommuteAndNegate", fn := fun _ => fun
  | [d1, d2] => { results := [.lit (.bool true)], args := [d1, d2] }
  | _ => none }
def fnAddIntsCommuteAndNegateRow : OpenClaim := { program := "qxb6601655a", sum := "416120ca9c0714342f9ccf0dca9005476c28ce3829fedb089d226c468d8701a1", func := "example.com/gapwarden/gapwarden/zzlaws_engine_b1.FnAddIntsCommuteAndNegate", spec := "fnAddIntsCommuteAndNegate", apart := false }
def FnAddIntsCommuteAndNegateSaid : Prop := fnAddIntsCommuteAndNegateRow.holds Try.pinned (OpenSpec.ofChange fnAddIntsCommuteAndNegateSpec)

/-- ITS FALSE NEIGHBOUR: 'it returns false'. Refute it at one input. -/
def fnAddIntsCommuteAndNegateWrong : ChangeSpec := { name := "fnAddIntsCommuteAndNegate", fn := fun _ => fun
  | [d1, d2] => { results := [.lit (.bool false)], args := [d1, d2] }
  | _ => none }
def FnAddIntsCommuteAndNegateWrongFalsely : Prop := fnAddIntsCommuteAndNegateRow.holds Try.pinned (OpenSpec.ofChange fnAddIntsCommuteAndNegateWrong)

/-- 'zzlaws_engine_b1.FnBothMatchMeansBoth': WHATEVER THE INPUT: true; the input reads as it did. -/
def fnBothMatchMeansBothSpec : ChangeSpec := { name := "fnBothMatchMeansBoth", fn := fun _ => fun
  | [d1, d2, d3, d4, d5] => { results := [.lit (.bool true)], args := [d1, d2, d3, d4, d5] }
  | _ => none }
def fnBothMatchMeansBothRow : OpenClaim := { program := "qxb6601655a", sum := "416120ca9c0714342f9ccf0dca9005476c28ce3829fedb089d226c468d8701a1", func := "example.com/gapwarden/gapwarden/zzlaws_engine_b1.FnBothMatchMeansBoth", spec := "fnBothMatchMeansBoth", inPlace := ["internal/bytealg.abigen_runtime_cmpstring"], apart := false }
def FnBothMatchMeansBothSaid : Prop := fnBothMatchMeansBothRow.holds Try.pinned (OpenSpec.ofChange fnBothMatchMeansBothSpec)

/-- ITS FALSE NEIGHBOUR: 'it returns false'. Refute it at one input. -/
def fnBothMatchMeansBothWrong : ChangeSpec := { name := "fnBothMatchMeansBoth", fn := fun _ => fun
  | [d1, d2, d3, d4, d5] => { results := [.lit (.bool false)], args := [d1, d2, d3, d4, d5] }
  | _ => none }
def FnBothMatchMeansBothWrongFalsely : Prop := fnBothMatchMeansBothRow.holds Try.pinned (OpenSpec.ofChange fnBothMatchMeansBothWrong)

/-- 'zzlaws_engine_b1.FnWidenExact': WHATEVER THE INPUT: true; the input reads as it did. -/
def fnWidenExactSpec : ChangeSpec := { name := "fnWidenExact", fn := fun _ => fun
  | [d1, d2, d3, d4, d5, d6] => { results := [.lit (.bool true)], args := [d1, d2, d3, d4, d5, d6] }
  | _ => none }
def fnWidenExactRow : OpenClaim := { program := "qxb6601655a", sum := "416120ca9c0714342f9ccf0dca9005476c28ce3829fedb089d226c468d8701a1", func := "example.com/gapwarden/gapwarden/zzlaws_engine_b1.FnWidenExact", spec := "fnWidenExact", apart := false }
def FnWidenExactSaid : Prop := fnWidenExactRow.holds Try.pinned (OpenSpec.ofChange fnWidenExactSpec)

/-- ITS FALSE NEIGHBOUR: 'it returns false'. Refute it at one input. -/
def fnWidenExactWrong : ChangeSpec := { name := "fnWidenExact", fn := fun _ => fun
  | [d1, d2, d3, d4, d5, d6] => { results := [.lit (.bool false)], args := [d1, d2, d3, d4, d5, d6] }
  | _ => none }
def FnWidenExactWrongFalsely : Prop := fnWidenExactRow.holds Try.pinned (OpenSpec.ofChange fnWidenExactWrong)

/-- 'zzlaws_engine_b1.FnWidenOrderFree': WHATEVER THE INPUT: true; the input reads as it did. -/
def fnWidenOrderFreeSpec : ChangeSpec := { name := "fnWidenOrderFree", fn := fun _ => fun
  | [d1, d2, d3, d4] => { results := [.lit (.bool true)], args := [d1, d2, d3, d4] }
  | _ => none }
def fnWidenOrderFreeRow : OpenClaim := { program := "qxb6601655a", sum := "416120ca9c0714342f9ccf0dca9005476c28ce3829fedb089d226c468d8701a1", func := "example.com/gapwarden/gapwarden/zzlaws_engine_b1.FnWidenOrderFree", spec := "fnWidenOrderFree", apart := false }
def FnWidenOrderFreeSaid : Prop := fnWidenOrderFreeRow.holds Try.pinned (OpenSpec.ofChange fnWidenOrderFreeSpec)

/-- ITS FALSE NEIGHBOUR: 'it returns false'. Refute it at one input. -/
def fnWidenOrderFreeWrong : ChangeSpec := { name := "fnWidenOrderFree", fn := fun _ => fun
  | [d1, d2, d3, d4] => { results := [.lit (.bool false)], args := [d1, d2, d3, d4] }
  | _ => none }
def FnWidenOrderFreeWrongFalsely : Prop := fnWidenOrderFreeRow.holds Try.pinned (OpenSpec.ofChange fnWidenOrderFreeWrong)

/-- 'zzlaws_engine_b1.FnWidenSharesByEqualColumns': WHATEVER THE INPUT: true; the input reads as it did. -/
def fnWidenSharesByEqualColumnsSpec : ChangeSpec := { name := "fnWidenSharesByEqualColumns", fn := fun _ => fun
  | [d1, d2, d3, d4] => { results := [.lit (.bool true)], args := [d1, d2, d3, d4] }
  | _ => none }
def fnWidenSharesByEqualColumnsRow : OpenClaim := { program := "qxb6601655a", sum := "416120ca9c0714342f9ccf0dca9005476c28ce3829fedb089d226c468d8701a1", func := "example.com/gapwarden/gapwarden/zzlaws_engine_b1.FnWidenSharesByEqualColumns", spec := "fnWidenSharesByEqualColumns", apart := false }
def FnWidenSharesByEqualColumnsSaid : Prop := fnWidenSharesByEqualColumnsRow.holds Try.pinned (OpenSpec.ofChange fnWidenSharesByEqualColumnsSpec)

/-- ITS FALSE NEIGHBOUR: 'it returns false'. Refute it at one input. -/
def fnWidenSharesByEqualColumnsWrong : ChangeSpec := { name := "fnWidenSharesByEqualColumns", fn := fun _ => fun
  | [d1, d2, d3, d4] => { results := [.lit (.bool false)], args := [d1, d2, d3, d4] }
  | _ => none }
def FnWidenSharesByEqualColumnsWrongFalsely : Prop := fnWidenSharesByEqualColumnsRow.holds Try.pinned (OpenSpec.ofChange fnWidenSharesByEqualColumnsWrong)

end Rows
end Go.Proofs.Qxb6601655a
