/-
  'make', a store and a fill, told exactly of a row of the call's own. No program in sight.
-/
import Derived.Test.Qxb6601655aRow
namespace Go.Proofs.Qxb6601655a
set_option linter.unusedSimpArgs false
set_option linter.unusedVariables false
open Go.RowKit

/-- 'make([]T, l, c)', told exactly. -/
theorem wpList_make_exact {P : Program} (w : World) {ops : Array Oper} {rest : List Oper} {o : Oper} {a : Act} {Q : Exit → Act → World → Prop} (hg : o.guard = none) (l c : Operand) (t : TypeId) (hop : o.op = Op.makeSlice t l c)
    (e : TypeId) (i : TypeInfo) (z : Value) (size : Nat) (h1 : P.underlying t = some (.slice e)) (h2 : P.info? e = some i) (h3 : i.zero = some z) (h4 : i.size = size)
    (kl kc : IntKind) (L C : Int) (n cap : Nat) (hl : a.eval l = .int kl L) (hc : a.eval c = .int kc C) (hL : L = (n : Int)) (hC : C = (cap : Int)) (hnc : n ≤ cap) (b2 : i.bytes * cap ≤ 281474976710656) (b3 : cap ≤ maxLen)
    (hK : wpList P ops Q rest (a.put o.dst (.slice (some ⟨w.heap.size, 0, none⟩) n cap)) (w.alloc (.cells (madeCells z.cells (cap * size)) e))) : wpList P ops Q (o :: rest) a w := by
  refine wpList_plain hg fun K hK' => ?_
  subst hL hC h4
  have hm : (cap : Int) ≤ 9223372036854775807 := by simp only [maxLen] at b3; omega
  have hb : (i.bytes : Int) * (cap : Int) ≤ 281474976710656 := by
    have h : ((i.bytes * cap : Nat) : Int) ≤ 281474976710656 := by omega
    rwa [Int.natCast_mul] at h
  have hrun := run_make (P := P) w t e i z h1 h2 h3 kl kc n cap (by omega) (by omega) hb hm
  simp only [Int.toNat_natCast] at hrun
  unfold Oper.wp
  simp [execOp, hop, hl, hc, hrun, Result.andThen]
  exact hK' _ _ hK

theorem Own.made (w : World) (e : TypeId) (size n cap : Nat) (z : Array Value) (hn : n ≤ cap) (hc : cap ≤ maxLen) :
    Own (w.alloc (.cells (madeCells z (cap * size)) e)) e size (.slice (some ⟨w.heap.size, 0, none⟩) n cap) n cap (madeCells z (cap * size)).toList :=
  Own.mk (by rw [Go.heap_alloc_new]) (by rw [Array.length_toList, size_madeCells]) hn hc

theorem Own.stored {w : World} {e : TypeId} {size g n cap : Nat} {cs : List Value} (h : Own w e size (.slice (some ⟨g, 0, none⟩) n cap) n cap cs) (j : Nat) (u : Value) :
    Own (w.setCell ⟨g, j, none⟩ u) e size (.slice (some ⟨g, 0, none⟩) n cap) n cap (cs.set j u) := by
  refine Own.mk ?_ (by rw [List.length_set]; exact h.1) h.2.1 h.2.2.1
  rw [heap_setCell_same w g j _ e u h.heap]
  simp

theorem madeCells_ints (n : Nat) : (madeCells (Value.int .i64 0).cells (n * 1)).toList = List.replicate n (Value.int .i64 0) := by
  rw [Nat.mul_one]; exact toList_madeCells_one _ _

theorem fill_step {α : Type} (A : List α) (z : α) (n k : Nat) (hA : A.length = n) (hk : k < n) (x : α) (hx : A[k]? = some x) :
    (A.take k ++ List.replicate (n - k) z).set k x = A.take (k + 1) ++ List.replicate (n - (k + 1)) z := by
  have hlt : (A.take k).length = k := by rw [List.length_take]; omega
  rw [List.set_append_right _ _ (by omega), hlt, Nat.sub_self]
  have e1 : n - k = (n - (k + 1)) + 1 := by omega
  rw [e1, List.replicate_succ, List.set_cons_zero]
  have e2 : A.take (k + 1) = A.take k ++ [x] := by
    rw [List.take_add_one, hx]; rfl
  rw [e2, List.append_assoc]; rfl

end Go.Proofs.Qxb6601655a
