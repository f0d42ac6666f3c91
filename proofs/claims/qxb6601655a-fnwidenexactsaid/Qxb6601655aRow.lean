/-
  A slice at the head of a block of its own, the block known whole; append of one element onto it, told exactly. No program in sight.
-/
import Derived.WalkKit
import Derived.Deep.AppendLies
import Derived.WalkSpells
namespace Go.Proofs.Qxb6601655a
set_option linter.unusedSimpArgs false
set_option linter.unusedVariables false
open Go.RowKit

/-- The slice v: n elements of 'size' cells in a row of 'cap' elements, whose cells are cs; nil where there is no row. -/
def Own (w : World) (e : TypeId) (size : Nat) (v : Value) (n cap : Nat) (cs : List Value) : Prop :=
  cs.length = cap * size ∧ n ≤ cap ∧ cap ≤ maxLen ∧
  ((v = .slice none 0 0 ∧ n = 0 ∧ cap = 0) ∨ ∃ g, v = .slice (some ⟨g, 0, none⟩) n cap ∧ w.heap[g]? = some (.cells cs.toArray e (0, 0)))

theorem Own.nil (w : World) (e : TypeId) (size : Nat) : Own w e size (.slice none 0 0) 0 0 [] := ⟨by simp, Nat.le_refl _, Nat.zero_le _, .inl ⟨rfl, rfl, rfl⟩⟩

theorem Own.mk {w : World} {e : TypeId} {size g n cap : Nat} {cs : List Value} (h : w.heap[g]? = some (.cells cs.toArray e (0, 0))) (hl : cs.length = cap * size) (hn : n ≤ cap) (hc : cap ≤ maxLen) :
    Own w e size (.slice (some ⟨g, 0, none⟩) n cap) n cap cs := ⟨hl, hn, hc, .inr ⟨g, rfl, h⟩⟩

theorem Own.heap {w : World} {e : TypeId} {size g n n' cap cap' : Nat} {cs : List Value} (h : Own w e size (.slice (some ⟨g, 0, none⟩) n cap) n' cap' cs) : w.heap[g]? = some (.cells cs.toArray e (0, 0)) := by
  rcases h.2.2.2 with ⟨h', _⟩ | ⟨g', h', hh⟩
  · simp at h'
  · simp only [Value.slice.injEq, Option.some.injEq, Addr.mk.injEq, and_true] at h'
    obtain ⟨rfl, _, _⟩ := h'
    exact hh

theorem Own.toRow {w : World} {e : TypeId} {size : Nat} {v : Value} {n cap : Nat} {cs : List Value} (h : Own w e size v n cap cs) : w.ownsRow 0 e size v n (cs.take (n * size)) := by
  obtain ⟨hl, hn, hc, h⟩ := h
  have hle : n * size ≤ cap * size := Nat.mul_le_mul_right _ hn
  refine ⟨by rw [List.length_take, hl]; omega, ?_⟩
  rcases h with ⟨hv, h0, _⟩ | ⟨g, hv, hh⟩
  · exact .inl ⟨hv, h0⟩
  · exact .inr ⟨g, cap, cs.toArray, hv, Nat.zero_le _, hh, hn, hc, by simpa using hl, by simp⟩

/-- A row in another world where its block is the same. -/
theorem Own.move {w w' : World} {e : TypeId} {size : Nat} {v : Value} {n cap : Nat} {cs : List Value} (h : Own w e size v n cap cs) (hb : ∀ g, v.ownBlock = some g → w'.heap[g]? = w.heap[g]?) : Own w' e size v n cap cs := by
  obtain ⟨hl, hn, hc, h⟩ := h
  refine ⟨hl, hn, hc, ?_⟩
  rcases h with h | ⟨g, hv, hh⟩
  · exact .inl h
  · exact .inr ⟨g, hv, by rw [hb g (by rw [hv]; rfl)]; exact hh⟩

theorem Own.lt {w : World} {e : TypeId} {size : Nat} {v : Value} {n cap : Nat} {cs : List Value} (h : Own w e size v n cap cs) {g : Nat} (hg : v.ownBlock = some g) : g < w.heap.size ∧ w.heap[g]? = some (.cells cs.toArray e (0, 0)) := by
  rcases h.2.2.2 with ⟨hv, _⟩ | ⟨g', hv, hh⟩
  · rw [hv] at hg; simp [Value.ownBlock] at hg
  · rw [hv] at hg
    simp [Value.ownBlock] at hg
    subst hg
    exact ⟨(Array.getElem?_eq_some_iff.1 hh).1, hh⟩

theorem Own.below {w w' : World} {e : TypeId} {size : Nat} {v : Value} {n cap : Nat} {cs : List Value} (h : Own w e size v n cap cs) (hb : Below w.heap.size w w') : Own w' e size v n cap cs :=
  h.move fun g hg => hb.block g (h.lt hg).1

theorem Own.grown {w w' : World} {e : TypeId} {size : Nat} {v : Value} {n cap : Nat} {cs : List Value} {row : Option Nat} (h : Own w e size v n cap cs) (hb : w.grownBy w' row) (hne : v.ownBlock ≠ row ∨ v.ownBlock = none) : Own w' e size v n cap cs :=
  h.move fun g hg => hb.block g (h.lt hg).1 (fun e => by
    rcases hne with h1 | h1
    · exact h1 (hg.trans e)
    · rw [h1] at hg; cases hg)

/-- The cell at j of the row. -/
theorem Own.cell {w : World} {e : TypeId} {size g n n' cap cap' : Nat} {cs : List Value} (h : Own w e size (.slice (some ⟨g, 0, none⟩) n cap) n' cap' cs) (j : Nat) : w.cell? ⟨g, j, none⟩ = cs[j]? := by
  rw [cell_of_row w g j _ e (0, 0) h.heap]; simp

theorem Own.frozen {w : World} {e : TypeId} {size g n n' cap cap' : Nat} {cs : List Value} (h : Own w e size (.slice (some ⟨g, 0, none⟩) n cap) n' cap' cs) (j : Nat) : w.frozen? ⟨g, j, none⟩ = false :=
  frozen_of_row w g j _ e h.heap

/-- append of one element, told exactly. -/
theorem run_append_exact {P : Program} (w : World) (t ty e : TypeId) (i : TypeInfo) (z : Value) (size bytes : Nat) (ht : P.underlying t = some (.slice e)) (hi : P.info? e = some i) (hz : i.zero = some z)
    (hsize : i.size = size) (hby : i.bytes = bytes) (hzs : z.cells.size = size)
    (v : Value) (n cap : Nat) (cs : List Value) (hown : Own w e size v n cap cs) (ad : Addr) (c : Nat) (news : List Value) (hl : news.length = size)
    (hnews : ∀ j u, news[j]? = some u → w.cell? (ad.add j) = some u) (h1 : ∀ u ∈ news, u.oneCell' = true) (h63 : n + 1 ≤ maxLen) (hbytes : (n + 1) * bytes ≤ 140737488355328) :
    ∃ g cap' w' cs', (Builtin.append_ #[t, t] ty #[v, .slice (some ad) 1 c]).run P w = .ok (.slice (some ⟨g, 0, none⟩) (n + 1) cap') w' ∧
      Own w' e size (.slice (some ⟨g, 0, none⟩) (n + 1) cap') (n + 1) cap' cs' ∧ cs'.take ((n + 1) * size) = cs.take (n * size) ++ news ∧ w.grownBy w' v.ownBlock ∧
      ((n < cap ∧ v.ownBlock = some g ∧ cap' = cap ∧ cs' = cs.take (n * size) ++ news ++ cs.drop ((n + 1) * size)) ∨ (n = cap ∧ g = w.heap.size ∧ ∀ k, k < w.heap.size → w'.heap[k]? = w.heap[k]?)) := by
  subst hsize
  subst hby
  have hsmall : n + 1 ≤ 9223372036854775807 := by simp only [maxLen] at h63; omega
  have hl1 : news.length = 1 * i.size := by omega
  have grown : ∀ (old : Nat) (row : Option Nat), old < n + 1 → (cs.take (n * i.size)).length = n * i.size →
      Own (w.drew.alloc (.cells ((cs.take (n * i.size)).toArray ++ news.toArray ++ Builtin.zeroCells z.cells (grownCap w (n + 1) old e - (n + 1))) e)) e i.size (.slice (some ⟨w.heap.size, 0, none⟩) (n + 1) (grownCap w (n + 1) old e)) (n + 1) (grownCap w (n + 1) old e) (cs.take (n * i.size) ++ news ++ (Builtin.zeroCells z.cells (grownCap w (n + 1) old e - (n + 1))).toList) ∧
      w.grownBy (w.drew.alloc (.cells ((cs.take (n * i.size)).toArray ++ news.toArray ++ Builtin.zeroCells z.cells (grownCap w (n + 1) old e - (n + 1))) e)) row := by
    intro old row ho hlt
    have hge := grownCap_ge w (n + 1) old e
    have hcm : grownCap w (n + 1) old e ≤ maxLen := grownCap_le_maxLen w (n + 1) old e h63
    refine ⟨Own.mk ?_ ?_ hge hcm, ⟨rfl, rfl, rfl, by simp, fun k hk _ => Go.heap_alloc_old w.drew _ (show k < w.drew.heap.size from hk)⟩⟩
    · have := heap_alloc_new w.drew (.cells ((cs.take (n * i.size)).toArray ++ news.toArray ++ Builtin.zeroCells z.cells (grownCap w (n + 1) old e - (n + 1))) e)
      rw [show w.heap.size = w.drew.heap.size from rfl, this]
      congr 2
      apply Array.ext'
      simp
    · simp only [List.length_append, Array.length_toList, size_zeroCells, hzs, hl, hlt]
      have e1 : grownCap w (n + 1) old e = n + 1 + (grownCap w (n + 1) old e - (n + 1)) := by omega
      rw [show grownCap w (n + 1) old e * i.size = (n + 1 + (grownCap w (n + 1) old e - (n + 1))) * i.size from by rw [← e1], Nat.add_mul, Nat.add_mul]
      omega
  obtain ⟨hcl, hnc, hcm, hown⟩ := hown
  have hle : n * i.size ≤ cap * i.size := Nat.mul_le_mul_right _ hnc
  have htl : (cs.take (n * i.size)).length = n * i.size := by rw [List.length_take, hcl]; omega
  have hsum : (n + 1) * i.size = n * i.size + i.size := by rw [Nat.add_mul]; omega
  have htk : ∀ rest : List Value, (cs.take (n * i.size) ++ news ++ rest).take ((n + 1) * i.size) = cs.take (n * i.size) ++ news := by
    intro rest
    have : (n + 1) * i.size = (cs.take (n * i.size) ++ news).length := by rw [List.length_append, htl, hl, hsum]
    rw [this, List.take_left]
  rcases hown with ⟨rfl, rfl, rfl⟩ | ⟨g, rfl, hg⟩
  · have hr := run_append_nil (P := P) w t ty e i z ht hi hz ad 1 c news hl1 hnews (by omega) (by omega) (by have hb := hbytes; simp only [Nat.zero_add] at hb; omega)
    have hgr := grown 0 (Value.ownBlock (.slice none 0 0)) (by omega) htl
    simp only [Nat.zero_mul, List.take_zero, Nat.zero_add, List.nil_append] at hgr htk ⊢
    rw [show ([] : List Value).toArray ++ news.toArray = news.toArray from by simp] at hgr
    exact ⟨_, _, _, _, hr, hgr.1, htk _, hgr.2, .inr ⟨trivial, rfl, fun k hk => hgr.2.block k hk (by simp [Value.ownBlock])⟩⟩
  · by_cases hroom : n + 1 ≤ cap
    · have hle1 : (n + 1) * i.size ≤ cap * i.size := Nat.mul_le_mul_right _ hroom
      have hfit : n * i.size + news.length ≤ cs.toArray.size := by rw [hl]; simp only [List.size_toArray, hcl]; omega
      have hr := run_append_room (P := P) w t ty e i ht hi g n cap _ hg ad 1 c news hl1 hnews h1 hroom hfit
      refine ⟨g, cap, _, cs.take (n * i.size) ++ news ++ cs.drop ((n + 1) * i.size), hr, ?_, htk _, ⟨rfl, rfl, rfl, by simp, fun k _ hk => setRow_other w g k _ (fun e => hk (by simp [Value.ownBlock, e]))⟩, .inl ⟨by omega, rfl, rfl, rfl⟩⟩
      refine Own.mk ?_ ?_ hroom hcm
      · rw [setRow_heap w g _ _ e _ hg, hl, ← hsum]
      · simp only [List.length_append, htl, hl, List.length_drop, hcl]; omega
    · have hnc' : n = cap := by omega
      subst hnc'
      have holds : ∀ j u, (cs.take (n * i.size))[j]? = some u → w.cell? ((⟨g, 0, none⟩ : Addr).add j) = some u := by
        intro j u hu
        have : (⟨g, 0, none⟩ : Addr).add j = ⟨g, j, none⟩ := by unfold Addr.add; split <;> simp_all
        rw [this, cell_of_row w g j _ e (0, 0) hg]
        rw [List.getElem?_take] at hu
        split at hu
        · simpa using hu
        · cases hu
      have hr := run_append_grow (P := P) w t ty e i z ht hi hz ⟨g, 0, none⟩ n n _ htl holds ad 1 c news hl1 hnews (by omega) (by omega) (growslice_fits (by omega) hbytes)
      have hgr := grown n none (by omega) htl
      have hgr2 := grown n (Value.ownBlock (.slice (some ⟨g, 0, none⟩) n n)) (by omega) htl
      exact ⟨_, _, _, _, hr, hgr.1, htk _, hgr2.2, .inr ⟨rfl, rfl, fun k hk => hgr.2.block k hk (by simp)⟩⟩

/-- What append of one element leaves. -/
structure Appended (w : World) (e : TypeId) (size : Nat) (v : Value) (n cap : Nat) (cs news : List Value) (g cap' : Nat) (w' : World) (cs' : List Value) : Prop where
  own : Own w' e size (.slice (some ⟨g, 0, none⟩) (n + 1) cap') (n + 1) cap' cs'
  take : cs'.take ((n + 1) * size) = cs.take (n * size) ++ news
  grow : w.grownBy w' v.ownBlock
  ways : (n < cap ∧ v.ownBlock = some g ∧ cap' = cap ∧ cs' = cs.take (n * size) ++ news ++ cs.drop ((n + 1) * size)) ∨ (n = cap ∧ g = w.heap.size ∧ ∀ k, k < w.heap.size → w'.heap[k]? = w.heap[k]?)

theorem wp_append_exact {P : Program} (w : World) {o : Oper} {a : Act} {K : Act → World → Prop} {Q : Exit → Act → World → Prop} (s x : Operand) (t : TypeId)
    (ho : o.op = .call { callee := .builtin .append, args := #[s, x], argTypes := #[t, t] }) (e : TypeId) (i : TypeInfo) (z : Value) (size bytes : Nat) (ht : P.underlying t = some (.slice e)) (hi : P.info? e = some i) (hz : i.zero = some z)
    (hsize : i.size = size) (hby : i.bytes = bytes) (hzs : z.cells.size = size)
    (v : Value) (n cap : Nat) (cs : List Value) (hs : a.eval s = v) (hown : Own w e size v n cap cs) (ad : Addr) (c : Nat) (news : List Value) (hx : a.eval x = .slice (some ad) 1 c) (hl : news.length = size)
    (hnews : ∀ j u, news[j]? = some u → w.cell? (ad.add j) = some u) (h1 : ∀ u ∈ news, u.oneCell' = true) (h63 : n + 1 ≤ maxLen) (hbytes : (n + 1) * bytes ≤ 140737488355328)
    (h : ∀ g cap' w' cs', Appended w e size v n cap cs news g cap' w' cs' → K (a.put o.dst (.slice (some ⟨g, 0, none⟩) (n + 1) cap')) w') : o.wp P a w K Q := by
  obtain ⟨g, cap', w', cs', hr, h2, h3, h4, h5⟩ := run_append_exact (P := P) w t o.type e i z size bytes ht hi hz hsize hby hzs v n cap cs hown ad c news hl hnews h1 h63 hbytes
  unfold Oper.wp execOp
  simp only [ho, resolve, invoke, builtin, Sem.run_bind, Sem.run_pure, Result.andThen_ok, List.map_toArray, List.map_cons, List.map_nil, hs, hx, hr]
  exact h g cap' w' cs' ⟨h2, h3, h4, h5⟩

theorem wpList_append_exact {P : Program} (w : World) {ops : Array Oper} {rest : List Oper} {o : Oper} {a : Act} {Q : Exit → Act → World → Prop} (hgd : o.guard = none) (s x : Operand) (t : TypeId)
    (ho : o.op = .call { callee := .builtin .append, args := #[s, x], argTypes := #[t, t] }) (e : TypeId) (i : TypeInfo) (z : Value) (size bytes : Nat) (ht : P.underlying t = some (.slice e)) (hi : P.info? e = some i) (hz : i.zero = some z)
    (hsize : i.size = size) (hby : i.bytes = bytes) (hzs : z.cells.size = size)
    (v : Value) (n cap : Nat) (cs : List Value) (hs : a.eval s = v) (hown : Own w e size v n cap cs) (ad : Addr) (c : Nat) (news : List Value) (hx : a.eval x = .slice (some ad) 1 c) (hl : news.length = size)
    (hnews : ∀ j u, news[j]? = some u → w.cell? (ad.add j) = some u) (h1 : ∀ u ∈ news, u.oneCell' = true) (h63 : n + 1 ≤ maxLen) (hbytes : (n + 1) * bytes ≤ 140737488355328)
    (h : ∀ g cap' w' cs', Appended w e size v n cap cs news g cap' w' cs' → wpList P ops Q rest (a.put o.dst (.slice (some ⟨g, 0, none⟩) (n + 1) cap')) w') : wpList P ops Q (o :: rest) a w :=
  wpList_plain hgd fun _ hK => wp_append_exact w s x t ho e i z size bytes ht hi hz hsize hby hzs v n cap cs hs hown ad c news hx hl hnews h1 h63 hbytes fun g cap' w' cs' h2 => hK _ _ (h g cap' w' cs' h2)

theorem step_append_exact {P : Program} (w : World) {ops : Array Oper} {o : Oper} {a : Act} {K : Act → World → Prop} {Q : Exit → Act → World → Prop} {E : Prop} (hgd : o.guard = none) (s x : Operand) (t : TypeId)
    (ho : o.op = .call { callee := .builtin .append, args := #[s, x], argTypes := #[t, t] }) (e : TypeId) (i : TypeInfo) (z : Value) (size bytes : Nat) (ht : P.underlying t = some (.slice e)) (hi : P.info? e = some i) (hz : i.zero = some z)
    (hsize : i.size = size) (hby : i.bytes = bytes) (hzs : z.cells.size = size)
    (v : Value) (n cap : Nat) (cs : List Value) (hs : a.eval s = v) (hown : Own w e size v n cap cs) (ad : Addr) (c : Nat) (news : List Value) (hx : a.eval x = .slice (some ad) 1 c) (hl : news.length = size)
    (hnews : ∀ j u, news[j]? = some u → w.cell? (ad.add j) = some u) (h1 : ∀ u ∈ news, u.oneCell' = true) (h63 : n + 1 ≤ maxLen) (hbytes : (n + 1) * bytes ≤ 140737488355328)
    (h : ∀ g cap' w' cs', Appended w e size v n cap cs news g cap' w' cs' → K (a.put o.dst (.slice (some ⟨g, 0, none⟩) (n + 1) cap')) w') :
    if Region.wanted o (yielded ops a.tmps) = true then Oper.wp P o a w K Q else E := by
  have hw : Region.wanted o (yielded ops a.tmps) = true := by simp [Region.wanted, hgd]
  rw [if_pos hw]
  exact wp_append_exact w s x t ho e i z size bytes ht hi hz hsize hby hzs v n cap cs hs hown ad c news hx hl hnews h1 h63 hbytes h

theorem heap_second (w : World) (b o : Obj) : ((w.alloc b).alloc o).heap[w.heap.size + 1]? = some o := by
  have := Go.heap_alloc_new (w.alloc b) o
  simpa using this

/-- A block of another type is none of the row's. -/
theorem Own.ne {w : World} {e e' : TypeId} {size : Nat} {v : Value} {n cap : Nat} {cs : List Value} (h : Own w e size v n cap cs) {k : Nat} {c : Array Value} {fr : Nat × Nat} (hk : w.heap[k]? = some (.cells c e' fr)) (hne : e ≠ e') : v.ownBlock ≠ some k := by
  intro hv
  have := (h.lt hv).2
  rw [hk] at this
  simp only [Option.some.injEq, Obj.cells.injEq] at this
  exact hne this.2.1.symm

/-- w' is w but for the blocks of S, and new ones. -/
structure But (S : Nat → Prop) (w w' : World) : Prop where
  os : w'.os = w.os
  tape : w'.tape = w.tape
  output : w'.output = w.output
  size : w.heap.size ≤ w'.heap.size
  block : ∀ k, k < w.heap.size → ¬ S k → w'.heap[k]? = w.heap[k]?

theorem But.refl (S : Nat → Prop) (w : World) : But S w w := ⟨rfl, rfl, rfl, Nat.le_refl _, fun _ _ _ => rfl⟩
theorem But.of_below {S : Nat → Prop} {w w' : World} (h : Below w.heap.size w w') : But S w w' := ⟨h.os, h.tape, h.output, h.size, fun k hk _ => h.block k hk⟩
theorem But.of_grown {S : Nat → Prop} {w w' : World} {row : Option Nat} (h : w.grownBy w' row) (hr : ∀ k, row = some k → S k) : But S w w' :=
  ⟨h.os, h.tape, h.output, h.size, fun k hk hn => h.block k hk (fun e => hn (hr k e.symm))⟩
theorem But.trans {S : Nat → Prop} {a b c : World} (h : But S a b) (k : But S b c) : But S a c :=
  ⟨k.os.trans h.os, k.tape.trans h.tape, k.output.trans h.output, Nat.le_trans h.size k.size, fun i hi hn => (k.block i (Nat.lt_of_lt_of_le hi h.size) hn).trans (h.block i hi hn)⟩
theorem But.mono {S T : Nat → Prop} {w w' : World} (h : But S w w') (hs : ∀ k, S k → T k) : But T w w' := ⟨h.os, h.tape, h.output, h.size, fun k hk hn => h.block k hk (fun x => hn (hs k x))⟩
theorem But.setCell {S : Nat → Prop} {a w : World} (h : But S a w) {p : Addr} (hp : S p.block ∨ a.heap.size ≤ p.block) (u : Value) : But S a (w.setCell p u) :=
  ⟨h.os, h.tape, h.output, by simpa [World.setCell] using h.size, fun k hk hn => by
    rw [Below.heap_setCell _ _ _ _ (by rcases hp with hp | hp
                                       · intro e; exact hn (e ▸ hp)
                                       · omega)]
    exact h.block k hk hn⟩
theorem But.alloc {S : Nat → Prop} {a w : World} (h : But S a w) (o : Obj) : But S a (w.alloc o) :=
  ⟨h.os, h.tape, h.output, by simpa using Nat.le_succ_of_le h.size, fun k hk hn => by rw [Go.heap_alloc_old w o (Nat.lt_of_lt_of_le hk h.size)]; exact h.block k hk hn⟩
theorem But.drew {S : Nat → Prop} {a w : World} (h : But S a w) : But S a w.drew := ⟨h.os, h.tape, h.output, h.size, h.block⟩
theorem But.below {S : Nat → Prop} {w w' : World} {B : Nat} (h : But S w w') (hB : B ≤ w.heap.size) (hs : ∀ k, S k → B ≤ k) : Below B w w' :=
  ⟨h.os, h.tape, h.output, h.size, fun k hk => h.block k (by omega) (fun x => by have := hs k x; omega)⟩
theorem Own.but {S : Nat → Prop} {w w' : World} {e : TypeId} {size : Nat} {v : Value} {n cap : Nat} {cs : List Value} (h : Own w e size v n cap cs) (hb : But S w w') (hne : ∀ k, S k → v.ownBlock ≠ some k) : Own w' e size v n cap cs :=
  h.move fun g hg => hb.block g (h.lt hg).1 (fun hs => hne g hs hg)

theorem lab_oneCell (w1 l1 d1 : Nat) (h1 s1 p1 : Int) : ∀ u ∈ [Value.float .f64 w1, Value.float .f64 l1, Value.float .f64 d1, Value.int .i64 h1, Value.int .i64 s1, Value.int .i64 p1], u.oneCell' = true := by
  intro u hu
  simp at hu
  rcases hu with rfl | rfl | rfl | rfl | rfl | rfl <;> rfl

theorem news_one (w : World) (x : Value) (t : TypeId) (k : Nat) (hk : k = w.heap.size) : ∀ j u, [x][j]? = some u → (w.alloc (.cells #[x] t)).cell? ((⟨k, 0, none⟩ : Addr).add j) = some u := by
  subst hk
  exact cell_one_new _ _ _

end Go.Proofs.Qxb6601655a
