/-
  A function's body as a row of statements: what is left behind the first n; the walk stops at the head of 'dropSeq', which it does not open.
-/
import Derived.WalkKit
namespace Go.Proofs.Qxb6601655a

/-- What is left of a sequence behind its first n statements. -/
def dropSeq : Nat → Code → Code
  | 0, c => c
  | n + 1, .seq _ b => dropSeq n b
  | _ + 1, c => c

def headSeq : Code → Code
  | .seq a _ => a
  | c => c

def isSeq : Code → Bool
  | .seq _ _ => true
  | _ => false

theorem dropSeq_succ : ∀ (n : Nat) (c : Code), dropSeq (n + 1) c = dropSeq 1 (dropSeq n c)
  | 0, c => rfl
  | n + 1, .seq _ b => by
    show dropSeq (n + 1) b = dropSeq 1 (dropSeq n b)
    exact dropSeq_succ n b
  | n + 1, .region _ _ _ | n + 1, .cond _ _ _ | n + 1, .loop _ | n + 1, .block _ _ | n + 1, .exit _ | n + 1, .ret | n + 1, .skip | n + 1, .label _ | n + 1, .goto _ | n + 1, .scope _ | n + 1, .refuse _ | n + 1, .rangeFunc _ _ _ _ => rfl

theorem wp_drop {P : Program} {Q : Exit → Act → World → Prop} {a : Act} {w : World} (n : Nat) (c : Code) (hs : isSeq (dropSeq n c) = true)
    (h : ∀ K : Act → World → Prop, (∀ a w, (dropSeq (n + 1) c).wp P Q a w → K a w) → (headSeq (dropSeq n c)).wp P (Exit.then K Q) a w) : (dropSeq n c).wp P Q a w := by
  rw [dropSeq_succ] at h
  cases hd : dropSeq n c <;> rw [hd] at hs h <;> first | (simp [isSeq] at hs; done) | skip
  exact wp_seq_k h

end Go.Proofs.Qxb6601655a
