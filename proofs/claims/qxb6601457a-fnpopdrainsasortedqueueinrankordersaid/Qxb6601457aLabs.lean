/-
  Rows of labels: their cells, one by one. Plain lists; then over a row of the call's own.
-/
import Derived.Test.Qxb6601457aPlain
import Derived.Test.Qxb6601457aRow
import Derived.Lib.QuietBelow
namespace Go.Proofs.Qxb6601457a
set_option linter.unusedSimpArgs false
set_option linter.unusedVariables false
open Go.RowKit Go.Sort

def labCells (x : Lab) : List Value := [.float .f64 x.wt, .float .f64 x.lo, .float .f64 x.de, .int .i64 x.ho, .int .i64 x.st, .int .i64 x.pr]
def flat (ls : List Lab) : List Value := ls.flatMap labCells

theorem flat_nil : flat [] = [] := rfl
theorem flat_cons (x : Lab) (ls : List Lab) : flat (x :: ls) = labCells x ++ flat ls := rfl
theorem flat_append (a b : List Lab) : flat (a ++ b) = flat a ++ flat b := by simp [flat]
theorem labCells_length (x : Lab) : (labCells x).length = 6 := rfl
theorem flat_length (ls : List Lab) : (flat ls).length = ls.length * 6 := by
  induction ls with
  | nil => rfl
  | cons x ls ih => rw [flat_cons, List.length_append, ih, labCells_length, List.length_cons]; omega

theorem flat_at (d : Lab) : ∀ (ls : List Lab) (a j : Nat), a < ls.length → j < 6 → (flat ls)[a * 6 + j]? = (labCells (ls.getD a d))[j]?
  | [], a, j, h, _ => by simp at h
  | x :: ls, 0, j, _, hj => by
    rw [flat_cons, List.getElem?_append_left (by rw [labCells_length]; omega)]
    simp
  | x :: ls, a + 1, j, h, hj => by
    rw [flat_cons, List.getElem?_append_right (by rw [labCells_length]; omega), labCells_length]
    rw [show (a + 1) * 6 + j - 6 = a * 6 + j from by omega, flat_at d ls a j (by simpa using h) hj]
    simp

/-- The six cells of label number a. -/
structure LabAt (w : World) (b o : Nat) (x : Lab) : Prop where
  c0 : w.cell? ⟨b, o, none⟩ = some (.float .f64 x.wt)
  c1 : w.cell? ⟨b, o + 1, none⟩ = some (.float .f64 x.lo)
  c2 : w.cell? ⟨b, o + 2, none⟩ = some (.float .f64 x.de)
  c3 : w.cell? ⟨b, o + 3, none⟩ = some (.int .i64 x.ho)
  c4 : w.cell? ⟨b, o + 4, none⟩ = some (.int .i64 x.st)
  c5 : w.cell? ⟨b, o + 5, none⟩ = some (.int .i64 x.pr)

theorem Own.labAt {w : World} {e : TypeId} {gl nl capl : Nat} {csl : List Value} {ls : List Lab} (d : Lab) (h : Own w e 6 (.slice (some ⟨gl, 0, none⟩) nl capl) nl capl csl) (hf : csl.take (nl * 6) = flat ls) (hn : ls.length = nl) {a : Nat} (ha : a < nl) : LabAt w gl (a * 6) (ls.getD a d) := by
  have key : ∀ j, j < 6 → w.cell? ⟨gl, a * 6 + j, none⟩ = (labCells (ls.getD a d))[j]? := by
    intro j hj
    rw [h.cell (a * 6 + j), ← flat_at d ls a j (by omega) hj, ← hf, List.getElem?_take, if_pos (by omega)]
  exact ⟨key 0 (by omega), key 1 (by omega), key 2 (by omega), key 3 (by omega), key 4 (by omega), key 5 (by omega)⟩

theorem labAt_of_block {w : World} {b : Nat} {t : TypeId} {x : Lab} (h : w.heap[b]? = some (.cells #[.float .f64 x.wt, .float .f64 x.lo, .float .f64 x.de, .int .i64 x.ho, .int .i64 x.st, .int .i64 x.pr] t (0, 0))) : LabAt w b 0 x := by
  refine ⟨?_, ?_, ?_, ?_, ?_, ?_⟩ <;> (rw [cell_of_row w b _ _ _ _ h]; rfl)

theorem LabAt.lt {w : World} {b o : Nat} {x : Lab} (h : LabAt w b o x) : b < w.heap.size := World.block_lt_of_cell? w _ h.c0

theorem LabAt.below {w w' : World} {b o : Nat} {x : Lab} (h : LabAt w b o x) (hb : Below w.heap.size w w') : LabAt w' b o x :=
  ⟨cell_later hb h.c0, cell_later hb h.c1, cell_later hb h.c2, cell_later hb h.c3, cell_later hb h.c4, cell_later hb h.c5⟩

theorem LabAt.regrown {w : World} {b o : Nat} {x : Lab} (h : LabAt w b o x) (d : Nat) (os : Array Obj) : LabAt (grow (redrawn w d) os) b o x := h.below (below_regrown w d os)

/-- A slice of n integers at ⟨b, o⟩: nil, or whatever, where n is nought. -/
structure Ints (w : World) (a : Option Addr) (n b o : Nat) (zs : List Int) : Prop where
  ad : 0 < n → a = some ⟨b, o, none⟩
  cell : ∀ j, j < n → w.cell? ⟨b, o + j, none⟩ = some (.int .i64 (zs.getD j 0))

theorem Ints.below {w w' : World} {a : Option Addr} {n b o : Nat} {zs : List Int} (h : Ints w a n b o zs) (hb : Below w.heap.size w w') : Ints w' a n b o zs := ⟨h.ad, fun j hj => cell_later hb (h.cell j hj)⟩
theorem Ints.cell0 {w : World} {a : Option Addr} {n b : Nat} {zs : List Int} (h : Ints w a n b 0 zs) : ∀ j, j < n → w.cell? ⟨b, j, none⟩ = some (.int .i64 (zs.getD j 0)) := fun j hj => by simpa using h.cell j hj

/-- A slice of n labels at ⟨b, o⟩. -/
structure Labs (w : World) (a : Option Addr) (n b o : Nat) (ls : List Lab) (d : Lab) : Prop where
  ad : 0 < n → a = some ⟨b, o, none⟩
  cell : ∀ j, j < n → LabAt w b (o + j * 6) (ls.getD j d)

theorem Labs.below {w w' : World} {a : Option Addr} {n b o : Nat} {ls : List Lab} {d : Lab} (h : Labs w a n b o ls d) (hb : Below w.heap.size w w') : Labs w' a n b o ls d := ⟨h.ad, fun j hj => (h.cell j hj).below hb⟩
theorem Labs.cell0 {w : World} {a : Option Addr} {n b : Nat} {ls : List Lab} {d : Lab} (h : Labs w a n b 0 ls d) : ∀ j, j < n → LabAt w b (j * 6) (ls.getD j d) := fun j hj => by simpa using h.cell j hj

end Go.Proofs.Qxb6601457a
