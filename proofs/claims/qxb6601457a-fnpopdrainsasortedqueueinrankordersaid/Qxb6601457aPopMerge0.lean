import Derived.Test.Qxb6601457aPopWalk
import Derived.Test.Qxb6601457aAdd
namespace Go.Proofs.Qxb6601457a
set_option linter.unusedSimpArgs false
set_option linter.unusedVariables false
open Go.RowKit Go.Sort
attribute [local go_sem] run_store_float

theorem Try.info27 : (Try.prog.info? 27).map (fun i => (i.zero, i.size, i.bytes)) = some (some (.agg #[.int .i64 0, .float .f64 0, .float .f64 0, .int .i64 0]), 4, 32) := by kernel_rfl
theorem Try.info31 : (Try.prog.info? 31).map (fun i => (i.zero, i.size, i.bytes)) = some (some (.agg #[.int .i64 0, .float .f64 0, .float .f64 0, .int .i64 0]), 4, 32) := by kernel_rfl

theorem made_flat (n : Nat) : (madeCells #[.int .i64 0, .float .f64 0, .float .f64 0, .int .i64 0] (n * 4)).toList = flatE (List.replicate n ent0) := by
  apply List.ext_getElem?
  intro m
  rw [flatE_get, List.getElem?_replicate]
  simp only [madeCells, Array.getElem?_toList, Array.getElem?_map, Array.getElem?_range]
  by_cases h : m < n * 4
  · rw [if_pos h, if_pos (by omega)]
    have : m % 4 = 0 ∨ m % 4 = 1 ∨ m % 4 = 2 ∨ m % 4 = 3 := by omega
    rcases this with q | q | q | q <;> simp [q, entCells, ent0]
  · rw [if_neg h, if_neg (by omega)]
    rfl

theorem RowE.made (w : World) (e : TypeId) (n : Nat) : RowE (w.alloc (.cells (madeCells #[.int .i64 0, .float .f64 0, .float .f64 0, .int .i64 0] (n * 4)) e)) w.heap.size e (List.replicate n ent0) := by
  unfold RowE
  rw [Go.heap_alloc_new, ← made_flat]

theorem totalCmp_eq {x y : Ent} {z : Int} (h : cmpE x y = z) (w : World) :
    Calls Try.prog 30 #[.agg #[.int .i64 x.at_, .float .f64 x.co, .float .f64 x.de, .int .i64 x.ho], .agg #[.int .i64 y.at_, .float .f64 y.co, .float .f64 y.de, .int .i64 y.ho]] w fun e w' => e = .returned (.int .i64 z) ∧ Below w.heap.size w w' := by
  subst h
  exact totalCmp_any _ _ _ _ _ _ _ _ w

/-- What the sort's loops hold of the memory: two rows of the call's own. -/
structure SortSt (w wr : World) (n g1 g2 : Nat) (src dst : List Ent) : Prop where
  r1 : RowE wr g1 27 src
  r2 : RowE wr g2 27 dst
  ls : src.length = n
  ld : dst.length = n
  ne : g1 ≠ g2
  b1 : w.heap.size ≤ g1
  b2 : w.heap.size ≤ g2
  bel : Below w.heap.size w wr

theorem SortSt.below {w wr wr' : World} {n g1 g2 : Nat} {src dst : List Ent} (h : SortSt w wr n g1 g2 src dst) (hb : Below wr.heap.size wr wr') : SortSt w wr' n g1 g2 src dst :=
  ⟨h.r1.below hb, h.r2.below hb, h.ls, h.ld, h.ne, h.b1, h.b2, h.bel.trans (hb.mono h.bel.size)⟩

theorem SortSt.store {w wr : World} {n g1 g2 : Nat} {src dst : List Ent} (h : SortSt w wr n g1 g2 src dst) {k : Nat} (hk : k < n) (x : Ent) : SortSt w (World.setEnt wr g2 (k * 4) x) n g1 g2 src (dst.set k x) :=
  ⟨h.r1.setOther _ _ (fun e => h.ne e.symm), h.r2.set (by have := h.ld; omega) x, h.ls, by rw [List.length_set]; exact h.ld, h.ne, h.b1, h.b2, Below.setEnt h.bel h.b2 _ _⟩

theorem SortSt.swap {w wr : World} {n g1 g2 : Nat} {src dst : List Ent} (h : SortSt w wr n g1 g2 src dst) : SortSt w wr n g2 g1 dst src :=
  ⟨h.r2, h.r1, h.ld, h.ls, fun e => h.ne e.symm, h.b2, h.b1, h.bel⟩

end Go.Proofs.Qxb6601457a
