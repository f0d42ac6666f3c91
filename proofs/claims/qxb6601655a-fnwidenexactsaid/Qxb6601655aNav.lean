/-
  Ways into a function's body: a sequence's halves, a block's or loop's inside.
-/
import Derived.Test.Qxb6601655aSeq
namespace Go.Proofs.Qxb6601655a

def cfst : Code → Code
  | .seq a _ => a
  | c => c
def csnd : Code → Code
  | .seq _ b => b
  | c => c
def cin : Code → Code
  | .block _ c => c
  | .loop c => c
  | c => c
/-- from 'init; for ..' to the loop's round -/
def roundOf (c : Code) : Code := cin (cin (csnd c))
/-- from a round to the block of its statements -/
def bodyOf (c : Code) : Code := cin (cfst (csnd c))
end Go.Proofs.Qxb6601655a
