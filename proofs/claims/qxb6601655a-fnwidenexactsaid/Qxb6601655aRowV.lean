/-
  Rows of integers and of values (three cells each): their cells, one by one. No program in sight.
-/
import Derived.Test.Qxb6601655aWPlain
import Derived.Test.Qxb6601655aRow
import Derived.Test.Qxb6601655aMake
import Derived.Lib.QuietBelow
namespace Go.Proofs.Qxb6601655a
set_option linter.unusedSimpArgs false
set_option linter.unusedVariables false
open Go.RowKit Go.Sort

theorem bcell {W w1 : World} (hb : Below W.heap.size W w1) : (∀ b o, b < W.heap.size → w1.cell? ⟨b, o, none⟩ = W.cell? ⟨b, o, none⟩) ∧ (∀ b o, b < W.heap.size → w1.frozen? ⟨b, o, none⟩ = W.frozen? ⟨b, o, none⟩) :=
  ⟨fun b o h => hb.cell (p := ⟨b, o, none⟩) h, fun b o h => hb.frozen (p := ⟨b, o, none⟩) h⟩

/-- one cell in a world that is the same but for S -/
theorem But.cell {S : Nat → Prop} {w w' : World} (h : But S w w') {b o : Nat} {v : Value} (hc : w.cell? ⟨b, o, none⟩ = some v) (hs : ¬ S b) : w'.cell? ⟨b, o, none⟩ = some v := by
  have hl : b < w.heap.size := World.block_lt_of_cell? w _ hc
  have := h.block b hl hs
  rw [← hc]
  simp only [World.cell?, this]

/-! ### integers -/
/-- A slice of n integers at ⟨b, o⟩: nil, or whatever, where n is nought. -/
structure Ints (w : World) (a : Option Addr) (n b o : Nat) (zs : List Int) : Prop where
  len : zs.length = n
  ad : 0 < n → a = some ⟨b, o, none⟩
  cell : ∀ j, j < n → w.cell? ⟨b, o + j, none⟩ = some (.int .i64 (ig zs j))

theorem Ints.below {w w' : World} {a : Option Addr} {n b o : Nat} {zs : List Int} (h : Ints w a n b o zs) (hb : Below w.heap.size w w') : Ints w' a n b o zs := ⟨h.len, h.ad, fun j hj => cell_later hb (h.cell j hj)⟩
theorem Ints.lt {w : World} {a : Option Addr} {n b o : Nat} {zs : List Int} (h : Ints w a n b o zs) (hn : 0 < n) : b < w.heap.size := World.block_lt_of_cell? w _ (h.cell 0 hn)
theorem Ints.but {S : Nat → Prop} {w w' : World} {a : Option Addr} {n b o : Nat} {zs : List Int} (h : Ints w a n b o zs) (hb : But S w w') (hs : 0 < n → ¬ S b) : Ints w' a n b o zs :=
  ⟨h.len, h.ad, fun j hj => hb.cell (h.cell j hj) (hs (by omega))⟩
theorem Ints.nought (w : World) (a : Option Addr) (b o : Nat) : Ints w a 0 b o [] := ⟨rfl, fun h => by omega, fun j hj => by omega⟩

/-- a row's cells as integers -/
theorem Ints.own {w : World} {e : TypeId} {v : Value} {n cap : Nat} {cs : List Value} {zs : List Int} (h : Own w e 1 v n cap cs) (ht : cs.take n = zs.map (Value.int .i64)) (hn : zs.length = n) :
    ∃ a b, v = .slice a n cap ∧ Ints w a n b 0 zs ∧ (a = none → n = 0) ∧ (v.ownBlock = some b ∨ n = 0) := by
  rcases h.2.2.2 with ⟨rfl, rfl, rfl⟩ | ⟨g, rfl, hh⟩
  · exact ⟨none, 0, rfl, ⟨hn, fun h => by omega, fun j hj => by omega⟩, fun _ => rfl, .inr rfl⟩
  · refine ⟨_, g, rfl, ⟨hn, fun _ => rfl, fun j hj => ?_⟩, (fun h => by cases h), .inl rfl⟩
    rw [Nat.zero_add, cell_of_row w g j _ e (0, 0) hh]
    have : cs[j]? = (cs.take n)[j]? := by rw [List.getElem?_take, if_pos hj]
    rw [List.getElem?_toArray, this, ht, List.getElem?_map, ig_get (by omega)]
    rfl

/-! ### values -/
structure Vl where
  kd : Int
  nm : Int
  tx : ByteArray
def vl0 : Vl := ⟨0, 0, ByteArray.empty⟩
/-- value number j -/
def vg (l : List Vl) (j : Nat) : Vl := l.getD j vl0
theorem vg_get {l : List Vl} {j : Nat} (h : j < l.length) : l[j]? = some (vg l j) := by simp [vg, h]

def vlCells (x : Vl) : List Value := [.int .u8 x.kd, .int .i64 x.nm, .string x.tx]
def flatV (ls : List Vl) : List Value := ls.flatMap vlCells

theorem flatV_cons (x : Vl) (ls : List Vl) : flatV (x :: ls) = vlCells x ++ flatV ls := rfl
theorem flatV_length (ls : List Vl) : (flatV ls).length = ls.length * 3 := by
  induction ls with
  | nil => rfl
  | cons x ls ih => rw [flatV_cons, List.length_append, ih, List.length_cons]; simp [vlCells]; omega

theorem flatV_get : ∀ (l : List Vl) (m : Nat), (flatV l)[m]? = (l[m / 3]?).bind (fun x => (vlCells x)[m % 3]?)
  | [], m => by simp [flatV]
  | x :: l, m => by
    rw [flatV_cons]
    by_cases h : m < 3
    · rw [List.getElem?_append_left (by simp [vlCells]; omega), show m / 3 = 0 from by omega, show m % 3 = m from by omega]
      rfl
    · rw [List.getElem?_append_right (by simp [vlCells]; omega), show (vlCells x).length = 3 from rfl, flatV_get l (m - 3), show m / 3 = (m - 3) / 3 + 1 from by omega, show m % 3 = (m - 3) % 3 from by omega]
      rfl

/-- The three cells of a value. -/
structure VlAt (w : World) (b o : Nat) (x : Vl) : Prop where
  c0 : w.cell? ⟨b, o, none⟩ = some (.int .u8 x.kd)
  c1 : w.cell? ⟨b, o + 1, none⟩ = some (.int .i64 x.nm)
  c2 : w.cell? ⟨b, o + 2, none⟩ = some (.string x.tx)

theorem VlAt.lt {w : World} {b o : Nat} {x : Vl} (h : VlAt w b o x) : b < w.heap.size := World.block_lt_of_cell? w _ h.c0
theorem VlAt.below {w w' : World} {b o : Nat} {x : Vl} (h : VlAt w b o x) (hb : Below w.heap.size w w') : VlAt w' b o x :=
  ⟨cell_later hb h.c0, cell_later hb h.c1, cell_later hb h.c2⟩
theorem VlAt.regrown {w : World} {b o : Nat} {x : Vl} (h : VlAt w b o x) (d : Nat) (os : Array Obj) : VlAt (grow (redrawn w d) os) b o x := h.below (below_regrown w d os)
theorem VlAt.but {S : Nat → Prop} {w w' : World} {b o : Nat} {x : Vl} (h : VlAt w b o x) (hb : But S w w') (hs : ¬ S b) : VlAt w' b o x :=
  ⟨hb.cell h.c0 hs, hb.cell h.c1 hs, hb.cell h.c2 hs⟩

/-- A slice of values at ⟨b, o⟩: nil, or whatever, where there are none. -/
structure Vls (w : World) (a : Option Addr) (n b o : Nat) (l : List Vl) : Prop where
  len : l.length = n
  ad : 0 < n → a = some ⟨b, o, none⟩
  cell : ∀ j, j < n → VlAt w b (o + j * 3) (vg l j)

theorem Vls.below {w w' : World} {a : Option Addr} {n b o : Nat} {l : List Vl} (h : Vls w a n b o l) (hb : Below w.heap.size w w') : Vls w' a n b o l := ⟨h.len, h.ad, fun j hj => (h.cell j hj).below hb⟩
theorem Vls.lt {w : World} {a : Option Addr} {n b o : Nat} {l : List Vl} (h : Vls w a n b o l) (hn : 0 < n) : b < w.heap.size := (h.cell 0 hn).lt
theorem Vls.but {S : Nat → Prop} {w w' : World} {a : Option Addr} {n b o : Nat} {l : List Vl} (h : Vls w a n b o l) (hb : But S w w') (hs : 0 < n → ¬ S b) : Vls w' a n b o l :=
  ⟨h.len, h.ad, fun j hj => (h.cell j hj).but hb (hs (by omega))⟩

/-- A block that holds the values l and nothing else, none of it frozen. -/
def RowV (w : World) (g : Nat) (e : TypeId) (l : List Vl) : Prop := w.heap[g]? = some (.cells (flatV l).toArray e (0, 0))

theorem RowV.lt {w : World} {g : Nat} {e : TypeId} {l : List Vl} (h : RowV w g e l) : g < w.heap.size := (Array.getElem?_eq_some_iff.1 h).1
theorem RowV.below {w w' : World} {g : Nat} {e : TypeId} {l : List Vl} (h : RowV w g e l) (hb : Below w.heap.size w w') : RowV w' g e l := (hb.block g h.lt).trans h
theorem RowV.frozen {w : World} {g : Nat} {e : TypeId} {l : List Vl} (h : RowV w g e l) (j : Nat) : w.frozen? ⟨g, j, none⟩ = false := frozen_of_row w g j _ e h
theorem RowV.cell {w : World} {g : Nat} {e : TypeId} {l : List Vl} (h : RowV w g e l) (m : Nat) : w.cell? ⟨g, m, none⟩ = (l[m / 3]?).bind (fun x => (vlCells x)[m % 3]?) := by
  rw [cell_of_row w g m _ e (0, 0) h, ← flatV_get]; simp
theorem RowV.at {w : World} {g : Nat} {e : TypeId} {l : List Vl} (h : RowV w g e l) {j : Nat} (hj : j < l.length) : VlAt w g (j * 3) (vg l j) := by
  have q := vg_get hj
  refine ⟨?_, ?_, ?_⟩
  · rw [h.cell, show j * 3 / 3 = j from by omega, show j * 3 % 3 = 0 from by omega, q]; rfl
  · rw [h.cell, show (j * 3 + 1) / 3 = j from by omega, show (j * 3 + 1) % 3 = 1 from by omega, q]; rfl
  · rw [h.cell, show (j * 3 + 2) / 3 = j from by omega, show (j * 3 + 2) % 3 = 2 from by omega, q]; rfl
theorem RowV.vls {w : World} {g : Nat} {e : TypeId} {l : List Vl} (h : RowV w g e l) : Vls w (some ⟨g, 0, none⟩) l.length g 0 l :=
  ⟨rfl, fun _ => rfl, fun j hj => by rw [Nat.zero_add]; exact h.at hj⟩

theorem flatV_set {l : List Vl} {j : Nat} (hj : j < l.length) (x : Vl) : (((flatV l).set (j * 3) (.int .u8 x.kd)).set (j * 3 + 1) (.int .i64 x.nm)).set (j * 3 + 2) (.string x.tx) = flatV (l.set j x) := by
  have hl : (flatV l).length = l.length * 3 := flatV_length l
  apply List.ext_getElem?
  intro m
  rw [flatV_get]
  by_cases hm : m / 3 = j
  · subst hm
    rw [List.getElem?_set_self hj]
    have hlt : m < (flatV l).length := by omega
    have : m % 3 = 0 ∨ m % 3 = 1 ∨ m % 3 = 2 := by omega
    rcases this with h | h | h
    · rw [List.getElem?_set_ne (by omega), List.getElem?_set_ne (by omega), show m / 3 * 3 = m from by omega, List.getElem?_set_self (by simpa using hlt), h]; rfl
    · rw [List.getElem?_set_ne (by omega), show m / 3 * 3 + 1 = m from by omega, List.getElem?_set_self (by simpa using hlt), h]; rfl
    · rw [show m / 3 * 3 + 2 = m from by omega, List.getElem?_set_self (by simpa using hlt), h]; rfl
  · rw [List.getElem?_set_ne (by omega), List.getElem?_set_ne (by omega), List.getElem?_set_ne (by omega), List.getElem?_set_ne (fun e => hm e.symm), flatV_get]

/-- the three stores of one value -/
def World.setVl (w : World) (g o : Nat) (x : Vl) : World :=
  ((w.setCell ⟨g, o, none⟩ (.int .u8 x.kd)).setCell ⟨g, o + 1, none⟩ (.int .i64 x.nm)).setCell ⟨g, o + 2, none⟩ (.string x.tx)

theorem RowV.set {w : World} {g : Nat} {e : TypeId} {l : List Vl} (h : RowV w g e l) {j : Nat} (hj : j < l.length) (x : Vl) : RowV (World.setVl w g (j * 3) x) g e (l.set j x) := by
  unfold RowV World.setVl
  have h1 := heap_setCell_same w g (j * 3) _ e (.int .u8 x.kd) h
  have h2 := heap_setCell_same _ g (j * 3 + 1) _ e (.int .i64 x.nm) h1
  have h3 := heap_setCell_same _ g (j * 3 + 2) _ e (.string x.tx) h2
  rw [h3, ← flatV_set hj x]
  simp only [List.setIfInBounds_toArray]

theorem setVl_size (w : World) (g o : Nat) (x : Vl) : (World.setVl w g o x).heap.size = w.heap.size := by simp [World.setVl, World.setCell]
theorem Below.setVl {B : Nat} {a w : World} (h : Below B a w) {g : Nat} (hg : B ≤ g) (o : Nat) (x : Vl) : Below B a (World.setVl w g o x) := by
  unfold World.setVl
  exact ((h.setCell (p := ⟨g, o, none⟩) hg _).setCell (p := ⟨g, o + 1, none⟩) hg _).setCell (p := ⟨g, o + 2, none⟩) hg _

theorem made_flat (n : Nat) : (madeCells #[.int .u8 0, .int .i64 0, .string ByteArray.empty] (n * 3)).toList = flatV (List.replicate n vl0) := by
  apply List.ext_getElem?
  intro m
  rw [flatV_get, List.getElem?_replicate]
  simp only [madeCells, Array.getElem?_toList, Array.getElem?_map, Array.getElem?_range]
  by_cases h : m < n * 3
  · rw [if_pos h, if_pos (by omega)]
    have : m % 3 = 0 ∨ m % 3 = 1 ∨ m % 3 = 2 := by omega
    rcases this with q | q | q <;> simp [q, vlCells, vl0]
  · rw [if_neg h, if_neg (by omega)]
    rfl

theorem RowV.made (w : World) (e : TypeId) (n : Nat) : RowV (w.alloc (.cells (madeCells #[.int .u8 0, .int .i64 0, .string ByteArray.empty] (n * 3)) e)) w.heap.size e (List.replicate n vl0) := by
  unfold RowV
  rw [Go.heap_alloc_new, ← made_flat]

end Go.Proofs.Qxb6601655a
