/-
  No cell of these rows narrows 'for every input' (looked for: loops, veiled, ifaces, maps, wideKeys, modest, calm, conditions, laid).
  DERIVED. THE GIVEN ROWS OF THIS SEAT. 3 by the template 'for every input the law returns true; each argument reads behind the call as it read before'; 0 by the template 'total and deterministic' (their statements: Qxb6601821aTotals.lean).
  GIVEN WITH THE SEED: the statements are not yours to turn. If you find one false, say at which input.
  Laid BY PROGRAM, IN A SANDBOX (cutbox-rows.mjs): the forced cells as the released guide's own fill.sh prints them over the translation 638d0e0922100f88… (all of the seat's roots in one cut). By AI agents, Wed Nov 11 2026. No macro, syntax, notation, axiom, sorry.
-/
import Derived.Test.Qxb6601821aChecked
import GoSem.Claim
import GoSem.ClaimJoined
import GoSem.ClaimMapViews
import Derived.JoinedTies
import Derived.KernelRfl
namespace Go.Proofs.Qxb6601821a
/- THE CELL 'sum', in the pinned program and in every row, IS THE sha256 OF THE DUMP (.gsa) THAT Qxb6601821aProg.lean LOADS. Nothing in Lean hashes anything: it is a label: what it is worth is what the hold of that sum in a sandbox is worth. -/
noncomputable def Try.pinned : Pinned := { name := "qxb6601821a", sum := "638d0e0922100f88cfe49121a986f6ba2bae5d35e1efd38f128ae191f18ad75a", checked := Try.checked }
namespace Rows
def none {H : Type} : Left H := { results := [], args := [] }

/-- 'zzlaws_input_b1.FnClipKeepsLongestPrefixOfFortyCharacters': WHATEVER THE INPUT: true; the input reads as it did. -/
def fnClipKeepsLongestPrefixOfFortyCharactersSpec : ChangeSpec := { name := "fnClipKeepsLongestPrefixOfFortyCharacters", fn := fun _ => fun
  | [d] => { results := [.lit (.bool true)], args := [d] }
  | _ => none }
def fnClipKeepsLongestPrefixOfFortyCharactersRow : OpenClaim := { program := "qxb6601821a", sum := "638d0e0922100f88cfe49121a986f6ba2bae5d35e1efd38f128ae191f18ad75a", func := "example.com/vestwright/vestwright/zzlaws_input_b1.FnClipKeepsLongestPrefixOfFortyCharacters", spec := "fnClipKeepsLongestPrefixOfFortyCharacters", apart := false }
def FnClipKeepsLongestPrefixOfFortyCharactersSaid : Prop := fnClipKeepsLongestPrefixOfFortyCharactersRow.holds Try.pinned (OpenSpec.ofChange fnClipKeepsLongestPrefixOfFortyCharactersSpec)

/-- ITS FALSE NEIGHBOUR: 'it returns false'. Refute it at one input. -/
def fnClipKeepsLongestPrefixOfFortyCharactersWrong : ChangeSpec := { name := "fnClipKeepsLongestPrefixOfFortyCharacters", fn := fun _ => fun
  | [d] => { results := [.lit (.bool false)], args := [d] }
  | _ => none }
def FnClipKeepsLongestPrefixOfFortyCharactersWrongFalsely : Prop := fnClipKeepsLongestPrefixOfFortyCharactersRow.holds Try.pinned (OpenSpec.ofChange fnClipKeepsLongestPrefixOfFortyCharactersWrong)

/-- 'zzlaws_input_b1.FnClipHeadIsAFixedPoint': WHATEVER THE INPUT: true; the input reads as it did. -/
def fnClipHeadIsAFixedPointSpec : ChangeSpec := { name := "fnClipHeadIsAFixedPoint", fn := fun _ => fun
  | [d] => { results := [.lit (.bool true)], args := [d] }
  | _ => none }
def fnClipHeadIsAFixedPointRow : OpenClaim := { program := "qxb6601821a", sum := "638d0e0922100f88cfe49121a986f6ba2bae5d35e1efd38f128ae191f18ad75a", func := "example.com/vestwright/vestwright/zzlaws_input_b1.FnClipHeadIsAFixedPoint", spec := "fnClipHeadIsAFixedPoint", apart := false }
def FnClipHeadIsAFixedPointSaid : Prop := fnClipHeadIsAFixedPointRow.holds Try.pinned (OpenSpec.ofChange fnClipHeadIsAFixedPointSpec)

/-- ITS FALSE NEIGHBOUR: 'it returns false'. Refute it at one input. -/
def fnClipHeadIsAFixedPointWrong : ChangeSpec := { name := "fnClipHeadIsAFixedPoint", fn := fun _ => fun
  | [d] => { results := [.lit (.bool false)], args := [d] }
  | _ => none }
def FnClipHeadIsAFixedPointWrongFalsely : Prop := fnClipHeadIsAFixedPointRow.holds Try.pinned (OpenSpec.ofChange fnClipHeadIsAFixedPointWrong)

/-- 'zzlaws_input_b1.FnClipIgnoresTextPastTheCut': WHATEVER THE INPUT: true; the input reads as it did. -/
def fnClipIgnoresTextPastTheCutSpec : ChangeSpec := { name := "fnClipIgnoresTextPastTheCut", fn := fun _ => fun
  | [d1, d2] => { results := [.lit (.bool true)], args := [d1, d2] }
  | _ => none }
def fnClipIgnoresTextPastTheCutRow : OpenClaim := { program := "qxb6601821a", sum := "638d0e0922100f88cfe49121a986f6ba2bae5d35e1efd38f128ae191f18ad75a", func := "example.com/vestwright/vestwright/zzlaws_input_b1.FnClipIgnoresTextPastTheCut", spec := "fnClipIgnoresTextPastTheCut", apart := false }
def FnClipIgnoresTextPastTheCutSaid : Prop := fnClipIgnoresTextPastTheCutRow.holds Try.pinned (OpenSpec.ofChange fnClipIgnoresTextPastTheCutSpec)

/-- ITS FALSE NEIGHBOUR: 'it returns false'. Refute it at one input. -/
def fnClipIgnoresTextPastTheCutWrong : ChangeSpec := { name := "fnClipIgnoresTextPastTheCut", fn := fun _ => fun
  | [d1, d2] => { results := [.lit (.bool false)], args := [d1, d2] }
  | _ => none }
def FnClipIgnoresTextPastTheCutWrongFalsely : Prop := fnClipIgnoresTextPastTheCutRow.holds Try.pinned (OpenSpec.ofChange fnClipIgnoresTextPastTheCutWrong)

end Rows
end Go.Proofs.Qxb6601821a
