/-
  Rows of entries: their cells, one by one; a store, a copy, a make, told exactly.
-/
import Derived.Test.Qxb6601457aPopHeap
import Derived.Test.Qxb6601457aRow
import Derived.Test.Qxb6601457aMake
import Derived.Laws.CopyOwn
import Derived.Lib.QuietBelow
namespace Go.Proofs.Qxb6601457a
set_option linter.unusedSimpArgs false
set_option linter.unusedVariables false
open Go.RowKit Go.Sort

def entCells (x : Ent) : List Value := [.int .i64 x.at_, .float .f64 x.co, .float .f64 x.de, .int .i64 x.ho]
def flatE (ls : List Ent) : List Value := ls.flatMap entCells

theorem flatE_cons (x : Ent) (ls : List Ent) : flatE (x :: ls) = entCells x ++ flatE ls := rfl
theorem flatE_append (a b : List Ent) : flatE (a ++ b) = flatE a ++ flatE b := by simp [flatE]
theorem flatE_length (ls : List Ent) : (flatE ls).length = ls.length * 4 := by
  induction ls with
  | nil => rfl
  | cons x ls ih => rw [flatE_cons, List.length_append, ih, List.length_cons]; simp [entCells]; omega

theorem flatE_get : ∀ (l : List Ent) (m : Nat), (flatE l)[m]? = (l[m / 4]?).bind (fun x => (entCells x)[m % 4]?)
  | [], m => by simp [flatE]
  | x :: l, m => by
    rw [flatE_cons]
    by_cases h : m < 4
    · rw [List.getElem?_append_left (by simp [entCells]; omega), show m / 4 = 0 from by omega, show m % 4 = m from by omega]
      rfl
    · rw [List.getElem?_append_right (by simp [entCells]; omega), show (entCells x).length = 4 from rfl, flatE_get l (m - 4), show m / 4 = (m - 4) / 4 + 1 from by omega, show m % 4 = (m - 4) % 4 from by omega]
      rfl

theorem flatE_oneCell (l : List Ent) : ∀ v ∈ flatE l, v.oneCell' = true := by
  intro v hv
  simp only [flatE, List.mem_flatMap] at hv
  obtain ⟨x, _, hx⟩ := hv
  simp [entCells] at hx
  rcases hx with rfl | rfl | rfl | rfl <;> rfl

/-- The four cells of an entry. -/
structure EntAt (w : World) (b o : Nat) (x : Ent) : Prop where
  c0 : w.cell? ⟨b, o, none⟩ = some (.int .i64 x.at_)
  c1 : w.cell? ⟨b, o + 1, none⟩ = some (.float .f64 x.co)
  c2 : w.cell? ⟨b, o + 2, none⟩ = some (.float .f64 x.de)
  c3 : w.cell? ⟨b, o + 3, none⟩ = some (.int .i64 x.ho)

theorem EntAt.lt {w : World} {b o : Nat} {x : Ent} (h : EntAt w b o x) : b < w.heap.size := World.block_lt_of_cell? w _ h.c0
theorem EntAt.below {w w' : World} {b o : Nat} {x : Ent} (h : EntAt w b o x) (hb : Below w.heap.size w w') : EntAt w' b o x :=
  ⟨cell_later hb h.c0, cell_later hb h.c1, cell_later hb h.c2, cell_later hb h.c3⟩
theorem EntAt.regrown {w : World} {b o : Nat} {x : Ent} (h : EntAt w b o x) (d : Nat) (os : Array Obj) : EntAt (grow (redrawn w d) os) b o x := h.below (below_regrown w d os)

/-- A slice of entries at ⟨b, o⟩: nil, or whatever, where there are none. -/
structure Ents (w : World) (a : Option Addr) (n b o : Nat) (l : List Ent) : Prop where
  len : l.length = n
  ad : 0 < n → a = some ⟨b, o, none⟩
  cell : ∀ j, j < n → EntAt w b (o + j * 4) (eg l j)

theorem Ents.below {w w' : World} {a : Option Addr} {n b o : Nat} {l : List Ent} (h : Ents w a n b o l) (hb : Below w.heap.size w w') : Ents w' a n b o l := ⟨h.len, h.ad, fun j hj => (h.cell j hj).below hb⟩

theorem Ents.belowB {w w' : World} {B : Nat} {a : Option Addr} {n b o : Nat} {l : List Ent} (h : Ents w a n b o l) (hb : Below B w w') (hB : ∀ j, j < n → b < B) : Ents w' a n b o l := by
  refine ⟨h.len, h.ad, fun j hj => ?_⟩
  have := hB j hj
  have e := h.cell j hj
  exact ⟨(hb.cell (p := ⟨b, _, none⟩) this).trans e.c0, (hb.cell (p := ⟨b, _, none⟩) this).trans e.c1, (hb.cell (p := ⟨b, _, none⟩) this).trans e.c2, (hb.cell (p := ⟨b, _, none⟩) this).trans e.c3⟩

/-- A block that holds the entries l and nothing else, none of it frozen. -/
def RowE (w : World) (g : Nat) (e : TypeId) (l : List Ent) : Prop := w.heap[g]? = some (.cells (flatE l).toArray e (0, 0))

theorem RowE.lt {w : World} {g : Nat} {e : TypeId} {l : List Ent} (h : RowE w g e l) : g < w.heap.size := (Array.getElem?_eq_some_iff.1 h).1
theorem RowE.below {w w' : World} {g : Nat} {e : TypeId} {l : List Ent} (h : RowE w g e l) (hb : Below w.heap.size w w') : RowE w' g e l := (hb.block g h.lt).trans h
theorem RowE.frozen {w : World} {g : Nat} {e : TypeId} {l : List Ent} (h : RowE w g e l) (j : Nat) : w.frozen? ⟨g, j, none⟩ = false := frozen_of_row w g j _ e h
theorem RowE.cell {w : World} {g : Nat} {e : TypeId} {l : List Ent} (h : RowE w g e l) (m : Nat) : w.cell? ⟨g, m, none⟩ = (l[m / 4]?).bind (fun x => (entCells x)[m % 4]?) := by
  rw [cell_of_row w g m _ e (0, 0) h, ← flatE_get]; simp
theorem RowE.at {w : World} {g : Nat} {e : TypeId} {l : List Ent} (h : RowE w g e l) {j : Nat} (hj : j < l.length) : EntAt w g (j * 4) (eg l j) := by
  have q := eg_get hj
  refine ⟨?_, ?_, ?_, ?_⟩
  · rw [h.cell, show j * 4 / 4 = j from by omega, show j * 4 % 4 = 0 from by omega, q]; rfl
  · rw [h.cell, show (j * 4 + 1) / 4 = j from by omega, show (j * 4 + 1) % 4 = 1 from by omega, q]; rfl
  · rw [h.cell, show (j * 4 + 2) / 4 = j from by omega, show (j * 4 + 2) % 4 = 2 from by omega, q]; rfl
  · rw [h.cell, show (j * 4 + 3) / 4 = j from by omega, show (j * 4 + 3) % 4 = 3 from by omega, q]; rfl
theorem RowE.ents {w : World} {g : Nat} {e : TypeId} {l : List Ent} (h : RowE w g e l) {n : Nat} (hn : n ≤ l.length) : Ents w (some ⟨g, 0, none⟩) n g 0 (l.take n) :=
  ⟨by rw [List.length_take]; omega, fun _ => rfl, fun j hj => by
    have e1 : eg (l.take n) j = eg l j := by simp [eg, List.getElem?_take, hj]
    rw [e1, Nat.zero_add]; exact h.at (by omega)⟩
theorem RowE.other {w : World} {g k : Nat} {e : TypeId} {l : List Ent} (h : RowE w g e l) {o : Nat} (v : Value) (hk : k ≠ g) : RowE (w.setCell ⟨k, o, none⟩ v) g e l := by
  unfold RowE
  rw [Below.heap_setCell _ _ _ _ (by simpa using fun e => hk e.symm)]
  exact h

theorem flatE_set {l : List Ent} {j : Nat} (hj : j < l.length) (x : Ent) : ((((flatE l).set (j * 4) (.int .i64 x.at_)).set (j * 4 + 1) (.float .f64 x.co)).set (j * 4 + 2) (.float .f64 x.de)).set (j * 4 + 3) (.int .i64 x.ho) = flatE (l.set j x) := by
  have hl : (flatE l).length = l.length * 4 := flatE_length l
  apply List.ext_getElem?
  intro m
  rw [flatE_get]
  by_cases hm : m / 4 = j
  · subst hm
    rw [List.getElem?_set_self hj]
    have hlt : m < (flatE l).length := by omega
    have : m % 4 = 0 ∨ m % 4 = 1 ∨ m % 4 = 2 ∨ m % 4 = 3 := by omega
    rcases this with h | h | h | h
    · rw [List.getElem?_set_ne (by omega), List.getElem?_set_ne (by omega), List.getElem?_set_ne (by omega), show m / 4 * 4 = m from by omega, List.getElem?_set_self (by simpa using hlt), h]; rfl
    · rw [List.getElem?_set_ne (by omega), List.getElem?_set_ne (by omega), show m / 4 * 4 + 1 = m from by omega, List.getElem?_set_self (by simpa using hlt), h]; rfl
    · rw [List.getElem?_set_ne (by omega), show m / 4 * 4 + 2 = m from by omega, List.getElem?_set_self (by simpa using hlt), h]; rfl
    · rw [show m / 4 * 4 + 3 = m from by omega, List.getElem?_set_self (by simpa using hlt), h]; rfl
  · rw [List.getElem?_set_ne (by omega), List.getElem?_set_ne (by omega), List.getElem?_set_ne (by omega), List.getElem?_set_ne (by omega), List.getElem?_set_ne (fun e => hm e.symm), flatE_get]

/-- the four stores of one entry -/
def World.setEnt (w : World) (g o : Nat) (x : Ent) : World :=
  (((w.setCell ⟨g, o, none⟩ (.int .i64 x.at_)).setCell ⟨g, o + 1, none⟩ (.float .f64 x.co)).setCell ⟨g, o + 2, none⟩ (.float .f64 x.de)).setCell ⟨g, o + 3, none⟩ (.int .i64 x.ho)

theorem RowE.set {w : World} {g : Nat} {e : TypeId} {l : List Ent} (h : RowE w g e l) {j : Nat} (hj : j < l.length) (x : Ent) : RowE (World.setEnt w g (j * 4) x) g e (l.set j x) := by
  unfold RowE World.setEnt
  have h1 := heap_setCell_same w g (j * 4) _ e (.int .i64 x.at_) h
  have h2 := heap_setCell_same _ g (j * 4 + 1) _ e (.float .f64 x.co) h1
  have h3 := heap_setCell_same _ g (j * 4 + 2) _ e (.float .f64 x.de) h2
  have h4 := heap_setCell_same _ g (j * 4 + 3) _ e (.int .i64 x.ho) h3
  rw [h4, ← flatE_set hj x]
  simp only [List.setIfInBounds_toArray]

theorem setEnt_size (w : World) (g o : Nat) (x : Ent) : (World.setEnt w g o x).heap.size = w.heap.size := by simp [World.setEnt, World.setCell]
theorem Below.setEnt {B : Nat} {a w : World} (h : Below B a w) {g : Nat} (hg : B ≤ g) (o : Nat) (x : Ent) : Below B a (World.setEnt w g o x) := by
  unfold World.setEnt
  exact (((h.setCell (p := ⟨g, o, none⟩) hg _).setCell (p := ⟨g, o + 1, none⟩) hg _).setCell (p := ⟨g, o + 2, none⟩) hg _).setCell (p := ⟨g, o + 3, none⟩) hg _
theorem setEnt_heap (w : World) {g k : Nat} (o : Nat) (x : Ent) (h : k ≠ g) : (World.setEnt w g o x).heap[k]? = w.heap[k]? := by
  unfold World.setEnt
  rw [Below.heap_setCell _ _ _ _ (by simpa using fun e => h e), Below.heap_setCell _ _ _ _ (by simpa using fun e => h e), Below.heap_setCell _ _ _ _ (by simpa using fun e => h e), Below.heap_setCell _ _ _ _ (by simpa using fun e => h e)]

theorem RowE.setOther {w : World} {g k : Nat} {e : TypeId} {l : List Ent} (h : RowE w g e l) (o : Nat) (x : Ent) (hk : k ≠ g) : RowE (World.setEnt w k o x) g e l :=
  (setEnt_heap w o x (fun e => hk e.symm)).trans h

/-- 'copy' of all of a slice's elements over all of a row. -/
theorem run_copy_full {P : Program} (w : World) (dT sT ty elem : TypeId) (i : TypeInfo) (hu : P.underlying dT = some (.slice elem)) (hi : P.info? elem = some i) (g n dCap sCap : Nat) (sp : Option Addr)
    (cur : Array Value) (t : TypeId) (cs : List Value) (hg : w.heap[g]? = some (.cells cur t (0, 0))) (hn : cs.length = n * i.size) (hc : cur.size = cs.length)
    (hsrc : 0 < n → ∃ ad, sp = some ad ∧ ∀ j v, cs[j]? = some v → w.cell? (ad.add j) = some v) (h1 : ∀ v ∈ cs, v.oneCell' = true) :
    (Builtin.copy_ #[dT, sT] ty #[.slice (some ⟨g, 0, none⟩) n dCap, .slice sp n sCap]).run P w = .ok (goInt n) (w.setRow g cs.toArray) := by
  have hst := run_storeCells_at P g 0 t cs 0 cur w hg (by omega) h1
  have hset : (cur.toList.take (0 + 0) ++ cs ++ cur.toList.drop (0 + 0 + cs.length)).toArray = cs.toArray := by
    congr 1
    rw [List.drop_eq_nil_iff.2 (by simp; omega)]
    simp
  rw [hset] at hst
  have hmin : Nat.min n n = n := Nat.min_self n
  cases sp with
  | none =>
    have h0 : n = 0 := by
      by_cases h : 0 < n
      · obtain ⟨ad, h, _⟩ := hsrc h; cases h
      · omega
    subst h0
    have : cs = [] := List.eq_nil_of_length_eq_zero (by omega)
    subst this
    simp [Builtin.copy_, run_underlying hu, Builtin.lenOf, Builtin.firstCells, sizeOf, typeInfo, hi, hmin, hst]
  | some ad =>
    have hcells : ∀ j v, cs[j]? = some v → w.cell? (ad.add j) = some v := by
      by_cases h : 0 < n
      · obtain ⟨ad', h, hh⟩ := hsrc h; cases h; exact hh
      · have h0 : n = 0 := by omega
        subst h0
        have : cs = [] := List.eq_nil_of_length_eq_zero (by omega)
        subst this
        intro j v hj; simp at hj
    have hl := run_loadCells_list (P := P) w ad cs hcells
    simp [Builtin.copy_, run_underlying hu, Builtin.lenOf, Builtin.firstCells, sizeOf, typeInfo, hi, hmin, ← hn, hl, hst]

theorem wpList_copy_full {P : Program} (w : World) {ops : Array Oper} {rest : List Oper} {o : Oper} {a : Act} {Q : Exit → Act → World → Prop} (hgd : o.guard = none) (d s : Operand) (dT sT : TypeId)
    (ho : o.op = .call { callee := .builtin .copy, args := #[d, s], argTypes := #[dT, sT] }) (elem : TypeId) (i : TypeInfo) (hu : P.underlying dT = some (.slice elem)) (hi : P.info? elem = some i) (g n dCap sCap : Nat) (sp : Option Addr)
    (hd : a.eval d = .slice (some ⟨g, 0, none⟩) n dCap) (hs : a.eval s = .slice sp n sCap)
    (cur : Array Value) (t : TypeId) (cs : List Value) (hg : w.heap[g]? = some (.cells cur t (0, 0))) (hn : cs.length = n * i.size) (hc : cur.size = cs.length)
    (hsrc : 0 < n → ∃ ad, sp = some ad ∧ ∀ j v, cs[j]? = some v → w.cell? (ad.add j) = some v) (h1 : ∀ v ∈ cs, v.oneCell' = true)
    (h : wpList P ops Q rest (a.put o.dst (goInt n)) (w.setRow g cs.toArray)) : wpList P ops Q (o :: rest) a w := by
  refine wpList_plain hgd fun K hK => ?_
  have hrun := run_copy_full (P := P) w dT sT o.type elem i hu hi g n dCap sCap sp cur t cs hg hn hc hsrc h1
  unfold Oper.wp
  simp [execOp, ho, resolve, invoke, builtin, hd, hs, hrun, Result.andThen]
  exact hK _ _ h

theorem Ents.src {w : World} {a : Option Addr} {n b o : Nat} {l : List Ent} (h : Ents w a n b o l) : 0 < n → ∃ ad, a = some ad ∧ ∀ j v, (flatE l)[j]? = some v → w.cell? (ad.add j) = some v := by
  intro hn
  refine ⟨⟨b, o, none⟩, h.ad hn, fun m v hv => ?_⟩
  have e : (⟨b, o, none⟩ : Addr).add m = ⟨b, o + m, none⟩ := by unfold Addr.add; split <;> simp_all
  rw [e]
  rw [flatE_get] at hv
  have hlt : m / 4 < l.length := by
    by_cases hq : m / 4 < l.length
    · exact hq
    · rw [List.getElem?_eq_none (by omega)] at hv; cases hv
  rw [eg_get hlt] at hv
  have c := h.cell (m / 4) (by have := h.len; omega)
  have : m % 4 = 0 ∨ m % 4 = 1 ∨ m % 4 = 2 ∨ m % 4 = 3 := by omega
  rcases this with q | q | q | q
  · rw [q] at hv; cases hv; rw [← c.c0]; congr 2; omega
  · rw [q] at hv; cases hv; rw [← c.c1]; congr 2; omega
  · rw [q] at hv; cases hv; rw [← c.c2]; congr 2; omega
  · rw [q] at hv; cases hv; rw [← c.c3]; congr 2; omega

end Go.Proofs.Qxb6601457a
